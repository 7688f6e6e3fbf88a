/-
  The walks of calm (a deferred closure that recovers) and of Armored.
-/
import Derived.Test.YtempflfhlbojgaaDoorArm1
import Derived.Tactics2
import Derived.Defers
import Derived.Recover
import Derived.Laws.Pointers
namespace Go.Proofs.YtempflfhlbojgaaDoor
open Go.RowKit

/-- The deferred closure, where nothing panicked. -/
theorem catch_idle (p : Addr) (w : World) : CallsD Tryd.prog 27 #[.pointer (some p)] .returning w fun e u' w' => e = .returned (.tuple #[]) ∧ u' = .returning ∧ w' = w := by
  refine callsD_of_wpS Tryd.func27 rfl fun c₀ cs hu => ?_
  apply wpS_seq
  apply wpS_region
  simp [wpOpsS, go_sem, recoverD, hu, Tryd.ntmps27, Exit.thenS]
  refine wpS_cond (t := false) (by simp [Act.eval, Array.replicate]) ?_
  simp only [Bool.false_eq_true, if_false]
  refine wpS_of_wp (wp_skip ?_)
  cases c₀
  simp_all [bodyPostS, results, Tryd.results27]

set_option maxHeartbeats 4000000 in
set_option maxRecDepth 100000 in
theorem calm_21 (caps : Array Value) (w : World) (R : World → Prop) (hc : Calls Tryd.prog 21 caps (w.alloc (.cells #[.bool false] 4)) fun e w' => e = .returned (.tuple #[]) ∧ R w' ∧ w'.heap[w.heap.size]? = some (.cells #[.bool false] 4 (0, 0))) :
    Calls Tryd.prog 17 #[.func (.func 21) #[] caps] w fun e w' => e = .returned (.bool true) ∧ ∃ w1, R w1 ∧ w' = w1.setCell ⟨w.heap.size, 0, none⟩ (.bool true) ∧ w.heap.size < w1.heap.size := by
  have hmf : ∀ (fn : Fn) (first cap : Array Value) (w : World), (Instr.makeFunc fn first cap).run Tryd.prog w = .ok (.func fn first cap) w := fun _ _ _ _ => rfl
  have Hc := Lib.hid hc
  clear hc
  go_enter_defers Tryd.func17, Tryd.ntmps17
  go_wp2_with fail
  refine Hc.out.mono ?_
  rintro e w1 ⟨rfl, hR, hb⟩
  have hlt := (Array.getElem?_eq_some_iff.1 hb).1
  have c0 : w1.cell? ⟨w.heap.size, 0, none⟩ = some (.bool false) := by rw [cell_of_row _ _ _ _ _ _ hb]; rfl
  have f0 : w1.frozen? ⟨w.heap.size, 0, none⟩ = false := frozen_of_row _ _ _ _ _ hb
  have HR := Lib.hid hR
  have Hb := Lib.hid hb
  clear hR hb
  go_wp2_with fail
  refine leaves_cons (f := 27) (args := #[.pointer (some ⟨w.heap.size, 0, none⟩)]) (by simp) (by simp [go_sem]) ?_
  refine (catch_idle ⟨w.heap.size, 0, none⟩ _).mono ?_
  rintro e u' w'' ⟨rfl, rfl, rfl⟩
  have c1 : (w1.setCell ⟨w.heap.size, 0, none⟩ (.bool true)).cell? ⟨w.heap.size, 0, none⟩ = some (.bool true) := World.cell?_setCell_same (w := w1) (a := ⟨w.heap.size, 0, none⟩) (v := .bool true) c0
  simp [Leaves, settle, results, Tryd.results17, go_sem, c1]
  exact ⟨w1, HR.out, rfl, hlt⟩

theorem allocs4 (w : World) (A B C D : Obj) : ((((w.alloc A).alloc B).alloc C).alloc D).heap[w.heap.size]? = some A ∧ ((((w.alloc A).alloc B).alloc C).alloc D).heap[w.heap.size + 1]? = some B ∧ ((((w.alloc A).alloc B).alloc C).alloc D).heap[w.heap.size + 1 + 1]? = some C ∧
    ((((w.alloc A).alloc B).alloc C).alloc D).heap[w.heap.size + 1 + 1 + 1]? = some D ∧ Fr (fun _ => False) w ((((w.alloc A).alloc B).alloc C).alloc D) ∧ ((((w.alloc A).alloc B).alloc C).alloc D).heap.size = w.heap.size + 4 := by
  have f : ∀ (u : World) (O : Obj), Fr (fun _ => False) u (u.alloc O) := fun u O => Fr.alloc O
  have z : ∀ (u : World) (O : Obj), (u.alloc O).heap.size = u.heap.size + 1 := fun u O => by simp
  have a := heap_alloc_new w A
  have b := heap_alloc_new (w.alloc A) B
  have c := heap_alloc_new ((w.alloc A).alloc B) C
  have d := heap_alloc_new (((w.alloc A).alloc B).alloc C) D
  rw [z] at b c d
  rw [z] at c d
  rw [z] at d
  refine ⟨?_, ?_, ?_, d, ?_, by rw [z, z, z, z]⟩
  · exact (f _ _).keep ((f _ _).keep ((f _ _).keep a (fun h => h)) (fun h => h)) (fun h => h)
  · exact (f _ _).keep ((f _ _).keep b (fun h => h)) (fun h => h)
  · exact (f _ _).keep c (fun h => h)
  · exact (((f _ _).trans (f _ _) (fun _ _ h => h)).trans (f _ _) (fun _ _ h => h)).trans (f _ _) (fun _ _ h => h)

set_option maxHeartbeats 4000000 in
set_option maxRecDepth 100000 in
theorem armored_at (pb po c p : Nat) (a0 : Option Addr) (ds : List UInt8) (w : World) (ha : 0 < ds.length → a0 = some ⟨pb, po, none⟩ ∧ At w ⟨pb, po, none⟩ ds) (hL : ds.length ≤ 5000) (hc : ds.length ≤ c) (hc2 : c ≤ 9223372036854775807) (hp : p ≤ 10000) :
    Calls Tryd.prog 9 #[.slice a0 ds.length c, .int .i64 p] w fun e w' => ∃ g cap, e = .returned (.tuple #[.slice (some ⟨g, 0, none⟩) (armorText ds).length cap, .bool true]) ∧ At w' ⟨g, 0, none⟩ (armorText ds) ∧ Fr (fun _ => False) w w' := by
  have hmf : ∀ (fn : Fn) (first cap : Array Value) (w : World), (Instr.makeFunc fn first cap).run Tryd.prog w = .ok (.func fn first cap) w := fun _ _ _ _ => rfl
  have Ha := Lib.hid ha
  clear ha
  go_enter Tryd.func9, Tryd.ntmps9
  go_wp2_with fail
  obtain ⟨u, hu⟩ : ∃ u, u = (((w.alloc (.cells #[.slice a0 ds.length c] 22)).alloc (.cells #[.int .i64 p] 3)).alloc (.cells #[.slice none 0 0] 22)).alloc (.cells #[.bool false] 4) := ⟨_, rfl⟩
  obtain ⟨k1, k2, k3, k4, k5, k6⟩ := allocs4 w (.cells #[.slice a0 ds.length c] 22) (.cells #[.int .i64 p] 3) (.cells #[.slice none 0 0] 22) (.cells #[.bool false] 4)
  rw [← hu] at k1 k2 k3 k4 k5 k6 ⊢
  clear hu
  have hfa : Fr (fun _ => False) u (u.alloc (.cells #[.bool false] 4)) := Fr.alloc _
  have kr := heap_alloc_new u (.cells #[.bool false] 4)
  have h1 := armored1_at w.heap.size (w.heap.size + 1) (w.heap.size + 1 + 1) (w.heap.size + 1 + 1 + 1) pb po c p a0 ds _ _ (u.alloc (.cells #[.bool false] 4)) (by rw [cell_of_row _ _ _ _ _ _ (hfa.keep k1 (fun h => h))]; rfl) (by rw [cell_of_row _ _ _ _ _ _ (hfa.keep k2 (fun h => h))]; rfl) (hfa.keep k3 (fun h => h)) (hfa.keep k4 (fun h => h)) (by omega)
    (fun h => ⟨(Ha.out h).1, ((Ha.out h).2.fr k5 (fun h => h)).fr hfa (fun h => h)⟩) hL hc hc2 hp
  have hca := calm_21 _ u (fun w' => ∃ g cap, w'.heap[w.heap.size + 1 + 1]? = some (.cells #[.slice (some ⟨g, 0, none⟩) (armorText ds).length cap] 22 (0, 0)) ∧ w'.heap[w.heap.size + 1 + 1 + 1]? = some (.cells #[.bool true] 4 (0, 0)) ∧ At w' ⟨g, 0, none⟩ (armorText ds) ∧ (u.alloc (.cells #[.bool false] 4)).heap.size ≤ g ∧ Fr (fun k => k = w.heap.size + 1 + 1 ∨ k = w.heap.size + 1 + 1 + 1) (u.alloc (.cells #[.bool false] 4)) w')
    (h1.mono (by
      rintro e w' ⟨rfl, g, cap, q1, q2, q3, q4, q5⟩
      exact ⟨rfl, ⟨g, cap, q1, q2, q3, q4, q5⟩, q5.keep kr (by omega)⟩))
  refine hca.mono ?_
  rintro e w' ⟨rfl, w1, ⟨g, cap, q1, q2, q3, q4, q5⟩, rfl, q6⟩
  have hS : Fr (· = u.heap.size) w1 (w1.setCell ⟨u.heap.size, 0, none⟩ (.bool true)) := Fr.setCell ⟨u.heap.size, 0, none⟩ (.bool true) rfl
  have r1 := hS.keep q1 (by omega)
  have r2 := hS.keep q2 (by omega)
  have hgu' : u.heap.size + 1 ≤ g := by simpa using q4
  have hgu : u.heap.size < g := hgu'
  have r3 := q3.fr hS (by show ¬ g = u.heap.size; omega)
  have r5 : Fr (fun _ => False) w (w1.setCell ⟨u.heap.size, 0, none⟩ (.bool true)) := by
    have f1 : Fr (fun _ => False) w (u.alloc (.cells #[.bool false] 4)) := k5.trans hfa (fun _ _ h => h)
    exact (f1.after q5 (fun i hi h => by omega)).after hS (fun i hi h => by omega)
  have t0 := cell_of_row _ _ 0 _ _ _ r1
  have f0 := cell_of_row _ _ 0 _ _ _ r2
  have tz : (w1.setCell ⟨u.heap.size, 0, none⟩ (.bool true)).frozen? ⟨w.heap.size + 1 + 1, 0, none⟩ = false := frozen_of_row _ _ _ _ _ r1
  obtain ⟨w2, hw2⟩ : ∃ w2, w2 = w1.setCell ⟨u.heap.size, 0, none⟩ (.bool true) := ⟨_, rfl⟩
  rw [← hw2] at r1 r3 r5 t0 f0 tz ⊢
  have t1 : w2.cell? ⟨w.heap.size + 1 + 1, 0, none⟩ = some (.slice (some ⟨g, 0, none⟩) (armorText ds).length cap) := t0
  have f1 : w2.cell? ⟨w.heap.size + 1 + 1 + 1, 0, none⟩ = some (.bool true) := f0
  obtain ⟨L, hL'⟩ : ∃ L, L = (armorText ds).length := ⟨_, rfl⟩
  rw [← hL'] at t1
  have HL := Lib.hid hL'
  have R3 := Lib.hid r3
  have R5 := Lib.hid r5
  have R1 := Lib.hid r1
  clear hL' r1 r2 r3 r5 t0 f0 hw2 q1 q2 q3 q4 q5 h1 hca k1 k2 k3 k4 k5 hS hfa kr
  go_wp2_with fail
  have c4 : (w2.setCell ⟨w.heap.size + 1 + 1, 0, none⟩ (.slice (some ⟨g, 0, none⟩) L cap)).cell? ⟨w.heap.size + 1 + 1, 0, none⟩ = some (.slice (some ⟨g, 0, none⟩) L cap) := World.cell?_setCell_same (w := w2) (a := ⟨w.heap.size + 1 + 1, 0, none⟩) (v := .slice (some ⟨g, 0, none⟩) L cap) t1
  refine bodyPost_ret (v := .tuple #[.slice (some ⟨g, 0, none⟩) L cap, .bool true]) (by simp [results, Tryd.results9, go_sem, c4]) rfl ?_
  have hS : Fr (· = w.heap.size + 1 + 1) w2 (w2.setCell ⟨w.heap.size + 1 + 1, 0, none⟩ (.slice (some ⟨g, 0, none⟩) L cap)) := Fr.setCell ⟨w.heap.size + 1 + 1, 0, none⟩ (.slice (some ⟨g, 0, none⟩) L cap) rfl
  refine ⟨g, cap, by rw [HL.out], R3.out.fr hS (by show ¬ g = _; omega), R5.out.after hS (fun i hi h => by omega)⟩
end Go.Proofs.YtempflfhlbojgaaDoor
