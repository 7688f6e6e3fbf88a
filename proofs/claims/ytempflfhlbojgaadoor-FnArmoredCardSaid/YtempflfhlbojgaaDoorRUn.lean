/-
  The walks of Unarmored's closure, of calm over it, and of Unarmored, at the armored "abc".
-/
import Derived.Test.YtempflfhlbojgaaDoorRAl
namespace Go.Proofs.YtempflfhlbojgaaDoor
open Go.RowKit

theorem cell1_set {w : World} {b : Nat} {x v : Value} {t : TypeId} (h : w.heap[b]? = some (.cells #[x] t (0, 0))) : (w.setCell ⟨b, 0, none⟩ v).heap[b]? = some (.cells #[v] t (0, 0)) := by
  have := Lib.heap_setCell_same (i := 0) h v
  simpa using this

set_option maxHeartbeats 4000000 in
set_option maxRecDepth 100000 in
theorem unarm1_abc (tb db fb xb c : Nat) (pE : Addr) (w : World) (hE : w.cell? ⟨0, 0, none⟩ = some (.iface 108 (.pointer (some pE)))) (ht : w.cell? ⟨tb, 0, none⟩ = some (.slice (some ⟨xb, 0, none⟩) 73 c))
    (hd : w.heap[db]? = some (.cells #[.slice none 0 0] 22 (0, 0))) (hf : w.heap[fb]? = some (.cells #[.bool false] 4 (0, 0))) (hdf : db ≠ fb)
    (hatx : At w ⟨xb, 0, none⟩ abcText) (hc : 73 ≤ c) (hc2 : c ≤ 9223372036854775807) (h0 : 0 < xb) (h1 : xb < w.heap.size) :
    Calls Tryd.prog 18 #[.pointer (some ⟨tb, 0, none⟩), .pointer (some ⟨db, 0, none⟩), .pointer (some ⟨fb, 0, none⟩)] w fun e w' => ∃ g cp, e = .returned (.tuple #[]) ∧ w'.heap[db]? = some (.cells #[.slice (some ⟨g, 0, none⟩) 3 cp] 22 (0, 0)) ∧
      w'.heap[fb]? = some (.cells #[.bool true] 4 (0, 0)) ∧ At w' ⟨g, 0, none⟩ [97, 98, 99] ∧ w.heap.size ≤ g ∧ Fr (fun k => k = db ∨ k = fb) w w' := by
  have hdl := (Array.getElem?_eq_some_iff.1 hd).1
  have hfl := (Array.getElem?_eq_some_iff.1 hf).1
  have HE := Lib.hid hE
  have Hd := Lib.hid hd
  have Hf := Lib.hid hf
  have Hatx := Lib.hid hatx
  clear hE hd hf hatx
  go_enter Tryd.func18, Tryd.ntmps18
  go_wp2_with fail
  have fA : Fr (fun _ => False) w (w.alloc (.cells #[.slice (some ⟨xb, 0, none⟩) 73 c, .int .i64 0] 52)) := Fr.alloc _
  have hs := heap_alloc_new w (.cells #[.slice (some ⟨xb, 0, none⟩) 73 c, .int .i64 0] 52)
  have hz : (w.alloc (.cells #[.slice (some ⟨xb, 0, none⟩) 73 c, .int .i64 0] 52)).heap.size = w.heap.size + 1 := by simp
  refine (newReader_at w.heap.size _).mono ?_
  rintro e w1 ⟨arb, rfl, hab, ar1, rd1, ⟨row, hb1, hrow⟩, f1⟩
  rw [hz] at hab ar1 rd1 hb1
  have hal := all_abc xb w.heap.size (w.heap.size + 1) (w.heap.size + 1 + 1) arb c row pE w1 (f1.cell (fA.cell HE.out (fun h => h)) (fun h => h)) ar1 rd1 (f1.keep hs (fun h => h)) hb1 hrow ((Hatx.out.fr fA (fun h => h)).fr f1 (fun h => h)) hc hc2 h0 h1 (by omega) (by omega) (by omega)
  have Hal := Lib.hid hal
  have F1 := Lib.hid (fA.trans f1 (fun _ _ h => h))
  clear hal ar1 rd1 hb1 f1 fA hs hab
  go_wp2_with fail
  refine Hal.out.mono ?_
  rintro e w2 ⟨g, cp, rfl, at2, f2, hg2⟩
  have t2 : Fr (fun _ => False) w w2 := F1.out.after f2 (fun i hi h => by have h' : w.heap.size ≤ i := h; omega)
  have hd2 := t2.keep Hd.out (fun h => h)
  have hf2 := t2.keep Hf.out (fun h => h)
  have cd : w2.cell? ⟨db, 0, none⟩ = some (.slice none 0 0) := by rw [cell_of_row _ _ _ _ _ _ hd2]; rfl
  have cf : w2.cell? ⟨fb, 0, none⟩ = some (.bool false) := by rw [cell_of_row _ _ _ _ _ _ hf2]; rfl
  have zd : w2.frozen? ⟨db, 0, none⟩ = false := frozen_of_row _ _ _ _ _ hd2
  have zf : w2.frozen? ⟨fb, 0, none⟩ = false := frozen_of_row _ _ _ _ _ hf2
  have hgw : w.heap.size ≤ g := Nat.le_trans F1.out.size hg2
  have T2 := Lib.hid t2
  have At2 := Lib.hid at2
  have Hd2 := Lib.hid hd2
  have Hf2 := Lib.hid hf2
  clear t2 at2 f2 hd2 hf2 Hal
  go_wp2_with fail
  go_returns
  have fd : Fr (· = db) w2 (w2.setCell ⟨db, 0, none⟩ (.slice (some ⟨g, 0, none⟩) 3 cp)) := Fr.setCell ⟨db, 0, none⟩ _ rfl
  have ff : Fr (· = fb) (w2.setCell ⟨db, 0, none⟩ (.slice (some ⟨g, 0, none⟩) 3 cp)) ((w2.setCell ⟨db, 0, none⟩ (.slice (some ⟨g, 0, none⟩) 3 cp)).setCell ⟨fb, 0, none⟩ (.bool true)) := Fr.setCell ⟨fb, 0, none⟩ _ rfl
  refine ⟨g, cp, rfl, ff.keep (cell1_set Hd2.out) hdf, cell1_set (fd.keep Hf2.out (fun e => hdf e.symm)), (At2.out.fr fd (by show ¬ g = db; omega)).fr ff (by show ¬ g = fb; omega), hgw, ?_⟩
  exact ((T2.out.none (S := fun k => k = db ∨ k = fb)).trans fd (fun _ _ h => .inl h)).trans ff (fun _ _ h => .inr h)

set_option maxHeartbeats 4000000 in
set_option maxRecDepth 100000 in
theorem calm_18 (caps : Array Value) (w : World) (R : World → Prop) (hc : Calls Tryd.prog 18 caps (w.alloc (.cells #[.bool false] 4)) fun e w' => e = .returned (.tuple #[]) ∧ R w' ∧ w'.heap[w.heap.size]? = some (.cells #[.bool false] 4 (0, 0))) :
    Calls Tryd.prog 17 #[.func (.func 18) #[] caps] w fun e w' => e = .returned (.bool true) ∧ ∃ w1, R w1 ∧ w' = w1.setCell ⟨w.heap.size, 0, none⟩ (.bool true) ∧ w.heap.size < w1.heap.size := by
  have hmf : ∀ (fn : Fn) (first cap : Array Value) (w : World), (Instr.makeFunc fn first cap).run Tryd.prog w = .ok (.func fn first cap) w := fun _ _ _ _ => rfl
  have Hc := Lib.hid hc
  clear hc
  go_enter_defers Tryd.func17, Tryd.ntmps17
  go_wp2_with fail
  refine Hc.out.mono ?_
  rintro e w1 ⟨rfl, hR, hb⟩
  have hlt := (Array.getElem?_eq_some_iff.1 hb).1
  have c0 : w1.cell? ⟨w.heap.size, 0, none⟩ = some (.bool false) := by rw [cell_of_row _ _ _ _ _ _ hb]; rfl
  have f0 : w1.frozen? ⟨w.heap.size, 0, none⟩ = false := frozen_of_row _ _ _ _ _ hb
  have HR := Lib.hid hR
  have Hb := Lib.hid hb
  clear hR hb
  go_wp2_with fail
  refine leaves_cons (f := 27) (args := #[.pointer (some ⟨w.heap.size, 0, none⟩)]) (by simp) (by simp [go_sem]) ?_
  refine (catch_idle ⟨w.heap.size, 0, none⟩ _).mono ?_
  rintro e u' w'' ⟨rfl, rfl, rfl⟩
  have c1 : (w1.setCell ⟨w.heap.size, 0, none⟩ (.bool true)).cell? ⟨w.heap.size, 0, none⟩ = some (.bool true) := World.cell?_setCell_same (w := w1) (a := ⟨w.heap.size, 0, none⟩) (v := .bool true) c0
  simp [Leaves, settle, results, Tryd.results17, go_sem, c1]
  exact ⟨w1, HR.out, rfl, hlt⟩

theorem allocs3 (w : World) (A C D : Obj) : (((w.alloc A).alloc C).alloc D).heap[w.heap.size]? = some A ∧ (((w.alloc A).alloc C).alloc D).heap[w.heap.size + 1]? = some C ∧ (((w.alloc A).alloc C).alloc D).heap[w.heap.size + 1 + 1]? = some D ∧
    Fr (fun _ => False) w (((w.alloc A).alloc C).alloc D) ∧ (((w.alloc A).alloc C).alloc D).heap.size = w.heap.size + 3 := by
  have f : ∀ (u : World) (O : Obj), Fr (fun _ => False) u (u.alloc O) := fun u O => Fr.alloc O
  have z : ∀ (u : World) (O : Obj), (u.alloc O).heap.size = u.heap.size + 1 := fun u O => by simp
  have a := heap_alloc_new w A
  have c := heap_alloc_new (w.alloc A) C
  have d := heap_alloc_new ((w.alloc A).alloc C) D
  rw [z] at c d
  rw [z] at d
  refine ⟨?_, ?_, d, ?_, by rw [z, z, z]⟩
  · exact (f _ _).keep ((f _ _).keep a (fun h => h)) (fun h => h)
  · exact (f _ _).keep c (fun h => h)
  · exact ((f _ _).trans (f _ _) (fun _ _ h => h)).trans (f _ _) (fun _ _ h => h)

set_option maxHeartbeats 4000000 in
set_option maxRecDepth 100000 in
theorem unarmored_abc (xb c : Nat) (pE : Addr) (w : World) (hE : w.cell? ⟨0, 0, none⟩ = some (.iface 108 (.pointer (some pE)))) (hatx : At w ⟨xb, 0, none⟩ abcText) (hc : 73 ≤ c) (hc2 : c ≤ 9223372036854775807) (h0 : 0 < xb) (h1 : xb < w.heap.size) :
    Calls Tryd.prog 8 #[.slice (some ⟨xb, 0, none⟩) 73 c] w fun e w' => ∃ g cp, e = .returned (.tuple #[.slice (some ⟨g, 0, none⟩) 3 cp, .bool true]) ∧ At w' ⟨g, 0, none⟩ [97, 98, 99] ∧ Fr (fun _ => False) w w' := by
  have hmf : ∀ (fn : Fn) (first cap : Array Value) (w : World), (Instr.makeFunc fn first cap).run Tryd.prog w = .ok (.func fn first cap) w := fun _ _ _ _ => rfl
  have HE := Lib.hid hE
  have Hatx := Lib.hid hatx
  clear hE hatx
  go_enter Tryd.func8, Tryd.ntmps8
  go_wp2_with fail
  obtain ⟨u, hu⟩ : ∃ u, u = ((w.alloc (.cells #[.slice (some ⟨xb, 0, none⟩) 73 c] 22)).alloc (.cells #[.slice none 0 0] 22)).alloc (.cells #[.bool false] 4) := ⟨_, rfl⟩
  obtain ⟨k1, k2, k3, k5, k6⟩ := allocs3 w (.cells #[.slice (some ⟨xb, 0, none⟩) 73 c] 22) (.cells #[.slice none 0 0] 22) (.cells #[.bool false] 4)
  rw [← hu] at k1 k2 k3 k5 k6 ⊢
  clear hu
  have hfa : Fr (fun _ => False) u (u.alloc (.cells #[.bool false] 4)) := Fr.alloc _
  have kr := heap_alloc_new u (.cells #[.bool false] 4)
  have hzu : (u.alloc (.cells #[.bool false] 4)).heap.size = u.heap.size + 1 := by simp
  have hu1 := unarm1_abc w.heap.size (w.heap.size + 1) (w.heap.size + 1 + 1) xb c pE (u.alloc (.cells #[.bool false] 4)) (hfa.cell (k5.cell HE.out (fun h => h)) (fun h => h)) (by rw [cell_of_row _ _ _ _ _ _ (hfa.keep k1 (fun h => h))]; rfl) (hfa.keep k2 (fun h => h)) (hfa.keep k3 (fun h => h)) (by omega) ((Hatx.out.fr k5 (fun h => h)).fr hfa (fun h => h)) hc hc2 h0 (by omega)
  have hca := calm_18 _ u (fun w' => ∃ g cp, w'.heap[w.heap.size + 1]? = some (.cells #[.slice (some ⟨g, 0, none⟩) 3 cp] 22 (0, 0)) ∧ w'.heap[w.heap.size + 1 + 1]? = some (.cells #[.bool true] 4 (0, 0)) ∧ At w' ⟨g, 0, none⟩ [97, 98, 99] ∧ (u.alloc (.cells #[.bool false] 4)).heap.size ≤ g ∧ Fr (fun k => k = w.heap.size + 1 ∨ k = w.heap.size + 1 + 1) (u.alloc (.cells #[.bool false] 4)) w')
    (hu1.mono (by
      rintro e w' ⟨g, cp, rfl, q1, q2, q3, q4, q5⟩
      exact ⟨rfl, ⟨g, cp, q1, q2, q3, q4, q5⟩, q5.keep kr (by omega)⟩))
  refine hca.mono ?_
  rintro e w' ⟨rfl, w1, ⟨g, cap, q1, q2, q3, q4, q5⟩, rfl, q6⟩
  have hS : Fr (· = u.heap.size) w1 (w1.setCell ⟨u.heap.size, 0, none⟩ (.bool true)) := Fr.setCell ⟨u.heap.size, 0, none⟩ (.bool true) rfl
  have r1 := hS.keep q1 (by omega)
  have r2 := hS.keep q2 (by omega)
  have r3 := q3.fr hS (by show ¬ g = u.heap.size; omega)
  have r5 : Fr (fun _ => False) w (w1.setCell ⟨u.heap.size, 0, none⟩ (.bool true)) := by
    have f1 : Fr (fun _ => False) w (u.alloc (.cells #[.bool false] 4)) := k5.trans hfa (fun _ _ h => h)
    exact (f1.after q5 (fun i hi h => by omega)).after hS (fun i hi h => by omega)
  have t0 := cell_of_row _ _ 0 _ _ _ r1
  have f0 := cell_of_row _ _ 0 _ _ _ r2
  have tz : (w1.setCell ⟨u.heap.size, 0, none⟩ (.bool true)).frozen? ⟨w.heap.size + 1, 0, none⟩ = false := frozen_of_row _ _ _ _ _ r1
  obtain ⟨w2, hw2⟩ : ∃ w2, w2 = w1.setCell ⟨u.heap.size, 0, none⟩ (.bool true) := ⟨_, rfl⟩
  rw [← hw2] at r1 r3 r5 t0 f0 tz ⊢
  have t1 : w2.cell? ⟨w.heap.size + 1, 0, none⟩ = some (.slice (some ⟨g, 0, none⟩) 3 cap) := t0
  have f1 : w2.cell? ⟨w.heap.size + 1 + 1, 0, none⟩ = some (.bool true) := f0
  have R3 := Lib.hid r3
  have R5 := Lib.hid r5
  have hgn : w.heap.size + 1 ≠ g := by omega
  clear r1 r2 r3 r5 t0 f0 hw2 q1 q2 q3 q4 q5 hu1 hca k1 k2 k3 k5 hS hfa kr
  go_wp2_with fail
  have c4 : (w2.setCell ⟨w.heap.size + 1, 0, none⟩ (.slice (some ⟨g, 0, none⟩) 3 cap)).cell? ⟨w.heap.size + 1, 0, none⟩ = some (.slice (some ⟨g, 0, none⟩) 3 cap) := World.cell?_setCell_same (w := w2) (a := ⟨w.heap.size + 1, 0, none⟩) (v := .slice (some ⟨g, 0, none⟩) 3 cap) t1
  refine bodyPost_ret (v := .tuple #[.slice (some ⟨g, 0, none⟩) 3 cap, .bool true]) (by simp [results, Tryd.results8, go_sem, c4]) rfl ?_
  have hS : Fr (· = w.heap.size + 1) w2 (w2.setCell ⟨w.heap.size + 1, 0, none⟩ (.slice (some ⟨g, 0, none⟩) 3 cap)) := Fr.setCell ⟨w.heap.size + 1, 0, none⟩ _ rfl
  exact ⟨g, cap, rfl, R3.out.fr hS (fun e => hgn e.symm), R5.out.after hS (fun i hi h => by have h' : i = w.heap.size + 1 := h; omega)⟩
end Go.Proofs.YtempflfhlbojgaaDoor
