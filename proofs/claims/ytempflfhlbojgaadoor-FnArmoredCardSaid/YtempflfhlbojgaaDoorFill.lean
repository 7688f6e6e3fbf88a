/-
  The walks of bufio.Reader: fill (once, from the start), Buffered, ReadSlice.
-/
import Derived.Test.YtempflfhlbojgaaDoorSrc
namespace Go.Proofs.YtempflfhlbojgaaDoor
open Go.RowKit

/-- A bufio.Reader at block rb. -/
def Rdr (rb bb sb r wr : Nat) (lb lr : Int) (w : World) : Prop :=
  w.heap[rb]? = some (.cells #[.slice (some ⟨bb, 0, none⟩) 4096 4096, .iface 50 (.pointer (some ⟨sb, 0, none⟩)), .int .i64 r, .int .i64 wr, .nilIface, .int .i64 lb, .int .i64 lr] 90 (0, 0))

theorem Rdr.cells {rb bb sb r wr : Nat} {lb lr : Int} {w : World} (h : Rdr rb bb sb r wr lb lr w) :
    w.cell? ⟨rb, 0, none⟩ = some (.slice (some ⟨bb, 0, none⟩) 4096 4096) ∧ w.cell? ⟨rb, 1, none⟩ = some (.iface 50 (.pointer (some ⟨sb, 0, none⟩))) ∧ w.cell? ⟨rb, 2, none⟩ = some (.int .i64 r) ∧ w.cell? ⟨rb, 3, none⟩ = some (.int .i64 wr) ∧
      w.cell? ⟨rb, 4, none⟩ = some .nilIface ∧ w.cell? ⟨rb, 5, none⟩ = some (.int .i64 lb) ∧ w.cell? ⟨rb, 6, none⟩ = some (.int .i64 lr) ∧ (∀ i, w.frozen? ⟨rb, i, none⟩ = false) ∧ rb < w.heap.size := by
  have e := fun i => cell_of_row w rb i _ _ _ h
  exact ⟨by rw [e]; rfl, by rw [e]; rfl, by rw [e]; rfl, by rw [e]; rfl, by rw [e]; rfl, by rw [e]; rfl, by rw [e]; rfl, fun i => frozen_of_row _ _ _ _ _ h, (Array.getElem?_eq_some_iff.1 h).1⟩
theorem Rdr.fr {S : Nat → Prop} {rb bb sb r wr : Nat} {lb lr : Int} {w w' : World} (h : Rdr rb bb sb r wr lb lr w) (hf : Fr S w w') (hn : ¬ S rb) : Rdr rb bb sb r wr lb lr w' := hf.keep h hn

theorem nil_ahead50 (F : Nat) (a : Addr) (w : World) : (nilAhead (F + 1) 50 (.pointer (some a)) "Read").run Tryd.prog w = .ok (some false) w := by kernel_rfl
theorem method50 (F : Nat) (a : Addr) (w : World) : (method (F + 1) 50 (.pointer (some a)) "Read").run Tryd.prog w = .ok (59, .pointer (some a)) w := by kernel_rfl

set_option maxHeartbeats 4000000 in
set_option maxRecDepth 100000 in
theorem fill_first (rb bb sb xb n c : Nat) (lb lr : Int) (T : List UInt8) (row : Array Value) (w : World) (hr : Rdr rb bb sb 0 0 lb lr w) (h : w.heap[sb]? = some (.cells #[.slice (some ⟨xb, 0, none⟩) n c, .int .i64 0] 52 (0, 0))) (hb : w.heap[bb]? = some (.cells row 5 (0, 0))) (hrow : row.size = 4096)
    (hat : At w ⟨xb, 0, none⟩ T) (hT : T.length = n) (h1 : 1 ≤ n) (h2 : n ≤ 4096) (hc : n ≤ c) (hc2 : c ≤ 9223372036854775807) (hxb : xb ≠ bb) (hsb : sb ≠ bb) (hrs : rb ≠ sb) (hrb : rb ≠ bb) :
    Calls Tryd.prog 89 #[.pointer (some ⟨rb, 0, none⟩)] w fun e w' => e = .returned (.tuple #[]) ∧ Rdr rb bb sb 0 n lb lr w' ∧
      (∃ a c', w'.heap[sb]? = some (.cells #[.slice a 0 c', .int .i64 0] 52 (0, 0))) ∧ w'.heap[bb]? = some (.cells (splice row.toList 0 (Lib.byteCells T)).toArray 5 (0, 0)) ∧ Fr (fun k => k = sb ∨ k = bb ∨ k = rb) w w' := by
  obtain ⟨c0, c1, c2, c3, c4, c5, c6, fz, hlt⟩ := hr.cells
  have fz3 := fz 3
  have hna := fun F a w => nil_ahead50 F a w
  have hme := fun F a w => method50 F a w
  have i3 : (0 : Int) < (n : Int) := by omega
  have i4 : ¬ (n : Int) < 0 := by omega
  have Hr := Lib.hid hr
  have Hh := Lib.hid h
  have Hb := Lib.hid hb
  have Hat := Lib.hid hat
  clear hr h hb hat
  go_enter Tryd.func89, Tryd.ntmps89
  go_wp2_with fail
  go_quiet (fail)
  go_wp2_with fail
  refine wp_loop_rounds 1 ?_
  rw [rounds_succ]
  go_wp2_with fail
  go_region_held3 (fun w' => w'.cell? ⟨rb, 0, none⟩ = some (.slice (some ⟨bb, 0, none⟩) 4096 4096) ∧ w'.cell? ⟨rb, 1, none⟩ = some (.iface 50 (.pointer (some ⟨sb, 0, none⟩))) ∧ w'.cell? ⟨rb, 3, none⟩ = some (.int .i64 0)) (refine ⟨?_, ?_, ?_⟩ <;> assumption)
    (first | (go_at_call 59; refine (source_all sb xb bb n c T row _ (by exact Hh.out) (by exact Hb.out) hrow (by exact Hat.out) hT h1 h2 hc hc2 hxb hsb).mono ?_; rintro e w1 ⟨rfl, k1, k2, k3⟩; have hr1 := Rdr.fr (by exact Hr.out) k3 (by rintro (e | e); exact hrs e; exact hrb e); obtain ⟨d0, d1, d2, d3, d4, d5, d6, dz, dlt⟩ := hr1.cells))
  have dz3 := dz 3
  have Hr1 := Lib.hid hr1
  have K1 := Lib.hid k1
  have K2 := Lib.hid k2
  have K3 := Lib.hid k3
  clear hr1 k1 k2 k3
  go_wp2_with fail
  go_returns
  have hS : Fr (· = rb) w1 (w1.setCell ⟨rb, 3, none⟩ (.int .i64 n)) := Fr.setCell ⟨rb, 3, none⟩ (.int .i64 n) rfl
  obtain ⟨a, c', k1⟩ := K1.out
  refine ⟨rfl, ?_, ⟨a, c', hS.keep k1 (fun e => hrs e.symm)⟩, hS.keep K2.out (fun e => hrb e.symm), ?_⟩
  · have := Lib.heap_setCell_same (i := 3) Hr1.out (.int .i64 n)
    simpa [Rdr] using this
  · have q0 : Fr (fun k => k = sb ∨ k = bb ∨ k = rb) w (w.drewN (nq + 1)) := Fr.drewN (nq + 1)
    have q1 := q0.trans K3.out (fun _ _ h => by rcases h with h | h; exact .inl h; exact .inr (.inl h))
    exact q1.trans hS (fun _ _ h => .inr (.inr h))
end Go.Proofs.YtempflfhlbojgaaDoor
