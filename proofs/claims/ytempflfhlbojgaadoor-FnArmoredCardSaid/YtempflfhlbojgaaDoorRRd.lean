/-
  The walks of readErr and of bufio.Reader.Read where nothing is left.
-/
import Derived.Test.YtempflfhlbojgaaDoorRBl
namespace Go.Proofs.YtempflfhlbojgaaDoor
open Go.RowKit

set_option maxHeartbeats 4000000 in
set_option maxRecDepth 100000 in
theorem readErr_at (rb : Nat) (E : Value) (w : World) (h : w.cell? ⟨rb, 4, none⟩ = some E) (hf : w.frozen? ⟨rb, 4, none⟩ = false) :
    Calls Tryd.prog 87 #[.pointer (some ⟨rb, 0, none⟩)] w fun e w' => e = .returned E ∧ w' = w.setCell ⟨rb, 4, none⟩ .nilIface := by
  go_enter Tryd.func87, Tryd.ntmps87
  go_wp2_with fail
  go_ret
  exact ⟨rfl, rfl⟩

theorem Rdr.setRW {rb bb sb r n : Nat} {lb lr : Int} {w : World} (h : Rdr rb bb sb r n lb lr w) (r' n' : Nat) :
    Rdr rb bb sb r' n' lb lr ((w.setCell ⟨rb, 2, none⟩ (.int .i64 r')).setCell ⟨rb, 3, none⟩ (.int .i64 n')) ∧ Fr (· = rb) w ((w.setCell ⟨rb, 2, none⟩ (.int .i64 r')).setCell ⟨rb, 3, none⟩ (.int .i64 n')) := by
  constructor
  · have := Lib.heap_setCell_same (i := 3) (Lib.heap_setCell_same (i := 2) h (.int .i64 r')) (.int .i64 n')
    simpa [Rdr] using this
  · have f : ∀ (u : World) (i : Nat) (v : Value), Fr (· = rb) u (u.setCell ⟨rb, i, none⟩ v) := fun u i v => Fr.setCell _ _ rfl
    exact (f _ _ _).trans (f _ _ _) (fun _ _ h => h)

theorem Rdr.setErr {rb bb sb r n : Nat} {lb lr : Int} {w : World} (h : Rdr rb bb sb r n lb lr w) (E : Value) :
    Rdr rb bb sb r n lb lr ((w.setCell ⟨rb, 4, none⟩ E).setCell ⟨rb, 4, none⟩ .nilIface) ∧ Fr (· = rb) w ((w.setCell ⟨rb, 4, none⟩ E).setCell ⟨rb, 4, none⟩ .nilIface) ∧ (w.setCell ⟨rb, 4, none⟩ E).cell? ⟨rb, 4, none⟩ = some E := by
  refine ⟨?_, ?_, ?_⟩
  · have := Lib.heap_setCell_same (i := 4) (Lib.heap_setCell_same (i := 4) h E) .nilIface
    simpa [Rdr] using this
  · have f : ∀ (u : World) (i : Nat) (v : Value), Fr (· = rb) u (u.setCell ⟨rb, i, none⟩ v) := fun u i v => Fr.setCell _ _ rfl
    exact (f _ _ _).trans (f _ _ _) (fun _ _ h => h)
  · exact World.cell?_setCell_same (w := w) (a := ⟨rb, 4, none⟩) (v := E) h.cells.2.2.2.2.1

theorem held_store4 {w : World} {rb : Nat} {v v1 x : Value} (h : w.cell? ⟨rb, 0, none⟩ = some v ∧ w.cell? ⟨rb, 1, none⟩ = some v1 ∧ w.frozen? ⟨rb, 4, none⟩ = false) :
    (w.setCell ⟨rb, 4, none⟩ x).cell? ⟨rb, 0, none⟩ = some v ∧ (w.setCell ⟨rb, 4, none⟩ x).cell? ⟨rb, 1, none⟩ = some v1 ∧ (w.setCell ⟨rb, 4, none⟩ x).frozen? ⟨rb, 4, none⟩ = false :=
  ⟨(World.cell?_setCell_other (w := w) (v := x) (a := ⟨rb, 4, none⟩) (b := ⟨rb, 0, none⟩) (by intro e; injection e with _ e2; omega)).trans h.1,
   (World.cell?_setCell_other (w := w) (v := x) (a := ⟨rb, 4, none⟩) (b := ⟨rb, 1, none⟩) (by intro e; injection e with _ e2; omega)).trans h.2.1,
   by rw [World.frozen?_setCell]; exact h.2.2⟩

set_option maxHeartbeats 4000000 in
set_option maxRecDepth 100000 in
theorem bread_end (rb bb sb n c : Nat) (lb lr : Int) (a ap : Option Addr) (pE : Addr) (w : World) (hE : w.cell? ⟨0, 0, none⟩ = some (.iface 108 (.pointer (some pE)))) (hr : Rdr rb bb sb n n lb lr w) (h : w.heap[sb]? = some (.cells #[.slice a 0 c, .int .i64 0] 52 (0, 0))) (_hn : n ≤ 4096) (hrs : rb ≠ sb) (hr0 : rb ≠ 0) :
    Calls Tryd.prog 90 #[.pointer (some ⟨rb, 0, none⟩), .slice ap 512 512] w fun e w' => e = .returned (.tuple #[.int .i64 0, .iface 108 (.pointer (some pE))]) ∧ Rdr rb bb sb 0 0 lb lr w' ∧ Fr (· = rb) w w' := by
  obtain ⟨c0, c1, c2, c3, c4, c5, c6, fz, hlt⟩ := hr.cells
  have fz2 := fz 2
  have fz3 := fz 3
  have fz4 := fz 4
  have hna := fun F a w => nil_ahead50 F a w
  have hme := fun F a w => method50 F a w
  have Hr := Lib.hid hr
  have Hh := Lib.hid h
  clear hr h
  go_enter Tryd.func90, Tryd.ntmps90
  go_wp2_with fail
  go_quiet (fail)
  go_wp2_with fail
  obtain ⟨q1, q2⟩ := Rdr.setRW (show Rdr rb bb sb n n lb lr (w.drewN nq) from Hr.out) 0 0
  obtain ⟨W, hW⟩ : ∃ W, W = ((w.drewN nq).setCell ⟨rb, 2, none⟩ (.int .i64 0)).setCell ⟨rb, 3, none⟩ (.int .i64 0) := ⟨_, rfl⟩
  have e0 : (((0 : Nat) : Int)) = 0 := rfl
  rw [e0, ← hW] at q1 q2
  rw [← hW]
  obtain ⟨d0, d1, d2, d3, d4, d5, d6, dz, dlt⟩ := q1.cells
  have dz4 := dz 4
  have hE1 : W.cell? ⟨0, 0, none⟩ = some (.iface 108 (.pointer (some pE))) := q2.cell (show (w.drewN nq).cell? ⟨0, 0, none⟩ = _ from hE) (fun e => hr0 e.symm)
  have hh1 := q2.keep (show (w.drewN nq).heap[sb]? = _ from Hh.out) (fun e => hrs e.symm)
  have Q1 := Lib.hid q1
  have Q2 := Lib.hid q2
  have Hh1 := Lib.hid hh1
  clear q1 q2 hh1 hW c0 c1 c2 c3 c4 c5 c6 fz fz2 fz3 fz4 hE
  go_region_held3 (fun w' => w'.cell? ⟨rb, 0, none⟩ = some (.slice (some ⟨bb, 0, none⟩) 4096 4096) ∧ w'.cell? ⟨rb, 1, none⟩ = some (.iface 50 (.pointer (some ⟨sb, 0, none⟩))) ∧ w'.frozen? ⟨rb, 4, none⟩ = false) (first | (refine ⟨?_, ?_, ?_⟩ <;> assumption) | exact held_store4 (by refine ⟨?_, ?_, ?_⟩ <;> assumption))
    (first | (go_at_call 59; refine (source_end sb a c _ _ _ (by exact hE1) (by exact Hh1.out)).mono ?_; rintro e w5 ⟨rfl, k5, hw5⟩; have x0 : w5.cell? ⟨rb, 0, none⟩ = some (.slice (some ⟨bb, 0, none⟩) 4096 4096) := (by rw [← hw5]; exact d0); have x1 : w5.cell? ⟨rb, 1, none⟩ = some (.iface 50 (.pointer (some ⟨sb, 0, none⟩))) := (by rw [← hw5]; exact d1); have x4 : w5.frozen? ⟨rb, 4, none⟩ = false := (by rw [← hw5]; exact dz4); have x5 : w5.cell? ⟨rb, 4, none⟩ = some .nilIface := (by rw [← hw5]; exact d4)))
  have r5 : Rdr rb bb sb 0 0 lb lr w5 := by rw [← hw5]; exact Q1.out
  have f5 : Fr (· = rb) w w5 := by
    have g1 : Fr (· = rb) W w5 := by rw [← hw5]; exact (Fr.drew (S := (· = rb))).trans (Fr.drewN k5) (fun _ _ h => h)
    exact ((Fr.drewN (S := (· = rb)) nq).trans Q2.out (fun _ _ h => h)).trans g1 (fun _ _ h => h)
  have hb5 := r5
  obtain ⟨z1, z2, z3⟩ := Rdr.setErr r5 (.iface 108 (.pointer (some pE)))
  have Z1 := Lib.hid z1
  have F5 := Lib.hid f5
  have Z2 := Lib.hid z2
  clear z1 f5 r5 z2 hw5 x0 x1 x4 x5
  go_wp2_with fail
  refine (readErr_at rb _ _ z3 (by rw [World.frozen?_setCell]; exact frozen_of_row _ _ _ _ _ hb5)).mono ?_
  rintro e w6 ⟨rfl, rfl⟩
  go_wp2_with fail
  go_ret2
  exact ⟨rfl, Z1.out, F5.out.trans Z2.out (fun _ _ h => h)⟩
end Go.Proofs.YtempflfhlbojgaaDoor
