/-
  The walk of base64's Decode of "YWJj" (strict): "abc".
-/
import Derived.Test.YtempflfhlbojgaaDoorRSm
namespace Go.Proofs.YtempflfhlbojgaaDoor
open Go.RowKit

set_option maxHeartbeats 4000000 in
set_option maxRecDepth 100000 in
theorem put_abc (b o n c : Nat) (cs : Array Value) (t : TypeId) (w : World) (h : w.heap[b]? = some (.cells cs t (0, 0))) (hfit : o + 4 ≤ cs.size) (hn : 4 ≤ n) (hb : n ≤ 100000) (_hc : n ≤ c) :
    Calls Tryd.prog 83 #[.slice (some ⟨b, o, none⟩) n c, .int .u32 1633837824] w fun e w' => e = .returned (.tuple #[]) ∧
      w'.heap[b]? = some (.cells ((((cs.setIfInBounds o (.int .u8 97)).setIfInBounds (o + 1) (.int .u8 98)).setIfInBounds (o + 2) (.int .u8 99)).setIfInBounds (o + 3) (.int .u8 0)) t (0, 0)) ∧ Fr (· = b) w w' := by
  have k : ∀ i, i < cs.size → ∃ v, w.cell? ⟨b, i, none⟩ = some v := fun i hi => ⟨cs[i], by rw [cell_of_row _ _ _ _ _ _ h]; simp [hi]⟩
  obtain ⟨v0, c0⟩ := k o (by omega)
  obtain ⟨v1, c1⟩ := k (o + 1) (by omega)
  obtain ⟨v2, c2⟩ := k (o + 2) (by omega)
  obtain ⟨v3, c3⟩ := k (o + 3) (by omega)
  have fz : ∀ i, w.frozen? ⟨b, i, none⟩ = false := fun i => frozen_of_row _ _ _ _ _ h
  have hlt : b < w.heap.size := (Array.getElem?_eq_some_iff.1 h).1
  have Hh := Lib.hid h
  clear h k
  go_enter Tryd.func83, Tryd.ntmps83
  go_wp2_with fail
  go_returns
  have f : ∀ (u : World) (i : Nat) (v : Value), Fr (· = b) u (u.setCell ⟨b, i, none⟩ v) := fun u i v => Fr.setCell _ _ rfl
  refine ⟨rfl, Lib.heap_setCell_same (Lib.heap_setCell_same (Lib.heap_setCell_same (Lib.heap_setCell_same Hh.out _) _) _) _, ?_⟩
  exact (((f _ _ _).trans (f _ _ _) (fun _ _ h => h)).trans (f _ _ _) (fun _ _ h => h)).trans (f _ _ _) (fun _ _ h => h)

/-- The strict Encoding's block. -/
def StrictAt (eb : Nat) (w : World) : Prop := w.heap[eb]? = some (.cells ((encCells 64).setIfInBounds 321 (.bool true)) 103 (0, 0))

theorem StrictAt.map {eb : Nat} {w : World} (h : StrictAt eb w) {c : Nat} (hc : c < 256) : w.cell? ⟨eb, 64 + c, none⟩ = some (.int .u8 (mp 64 c)) := by
  rw [cell_of_row _ _ _ _ _ _ h, Array.getElem?_setIfInBounds_ne (by omega), encCells_map _ hc]

theorem StrictAt.range {eb : Nat} {w : World} (h : StrictAt eb w) : w.rangeAt eb 64 ((List.range 256).map fun c => Value.int .u8 (mp 64 c)) := by
  intro j v hj
  rw [List.getElem?_map] at hj
  by_cases hl : j < 256
  · rw [List.getElem?_range hl] at hj
    rw [h.map hl]
    exact hj
  · rw [List.getElem?_eq_none (by simp; omega)] at hj; cases hj

theorem info101 : (Tryd.prog.info? 101).map (·.size) = some ((List.range 256).map fun c => Value.int .u8 (mp 64 c)).length := by rw [List.length_map, List.length_range]; kernel_rfl

set_option maxHeartbeats 4000000 in
set_option maxRecDepth 100000 in
theorem decode_abc (eb b g C : Nat) (cs : Array Value) (t : TypeId) (w : World) (he : StrictAt eb w) (h : w.heap[b]? = some (.cells cs t (0, 0))) (hfit : 51 ≤ cs.size) (hat : At w ⟨g, 0, none⟩ [89, 87, 74, 106]) (hC : 4 ≤ C) (hCb : C ≤ 100000) :
    Calls Tryd.prog 75 #[.pointer (some ⟨eb, 0, none⟩), .slice (some ⟨b, 3, none⟩) 48 48, .slice (some ⟨g, 0, none⟩) 4 C] w fun e w' => e = .returned (.tuple #[.int .i64 3, .nilIface]) ∧
      w'.heap[b]? = some (.cells ((((cs.setIfInBounds 3 (.int .u8 97)).setIfInBounds 4 (.int .u8 98)).setIfInBounds 5 (.int .u8 99)).setIfInBounds 6 (.int .u8 0)) t (0, 0)) ∧ Fr (· = b) w w' := by
  have s0 : w.cell? ⟨g, 0, none⟩ = some (.int .u8 89) := hat.cell (i := 0) (by decide)
  have s1 : w.cell? ⟨g, 1, none⟩ = some (.int .u8 87) := hat.cell (i := 1) (by decide)
  have s2 : w.cell? ⟨g, 2, none⟩ = some (.int .u8 74) := hat.cell (i := 2) (by decide)
  have s3 : w.cell? ⟨g, 3, none⟩ = some (.int .u8 106) := hat.cell (i := 3) (by decide)
  have m0 : w.cell? ⟨eb, 153, none⟩ = some (.int .u8 24) := he.map (c := 89) (by omega)
  have m1 : w.cell? ⟨eb, 151, none⟩ = some (.int .u8 22) := he.map (c := 87) (by omega)
  have m2 : w.cell? ⟨eb, 138, none⟩ = some (.int .u8 9) := he.map (c := 74) (by omega)
  have m3 : w.cell? ⟨eb, 170, none⟩ = some (.int .u8 35) := he.map (c := 106) (by omega)
  obtain ⟨M, hM⟩ : ∃ M, M = (List.range 256).map fun c => Value.int .u8 (mp 64 c) := ⟨_, rfl⟩
  have hr : w.rangeAt eb 64 M := hM ▸ he.range
  have hi : (Tryd.prog.info? 101).map (·.size) = some M.length := hM ▸ info101
  clear hM
  have Hh := Lib.hid h
  clear he h hat
  go_enter Tryd.func75, Tryd.ntmps75
  go_wp2_with ((with_reducible refine wpList_load_mid rfl 101 _ rfl eb 64 rfl _ _ hr Tryd.underlying101 rfl hi ?_); (try simp only [Act.put, List.setIfInBounds_toArray, List.set_cons_zero, List.set_cons_succ]))
  clear hr hi
  refine wp_loop_rounds 1 ?_
  rw [rounds_succ]
  go_wp2_with fail
  refine wp_loop_rounds 2 ?_
  rw [rounds_succ]
  go_wp2_with fail
  go_region_held3 (fun w' => w'.cell? ⟨g, 0, none⟩ = some (.int .u8 89) ∧ w'.cell? ⟨g, 1, none⟩ = some (.int .u8 87) ∧ w'.cell? ⟨g, 2, none⟩ = some (.int .u8 74) ∧ w'.cell? ⟨g, 3, none⟩ = some (.int .u8 106) ∧ w'.cell? ⟨eb, 153, none⟩ = some (.int .u8 24) ∧ w'.cell? ⟨eb, 151, none⟩ = some (.int .u8 22) ∧ w'.cell? ⟨eb, 138, none⟩ = some (.int .u8 9) ∧ w'.cell? ⟨eb, 170, none⟩ = some (.int .u8 35))
    (refine ⟨?_, ?_, ?_, ?_, ?_, ?_, ?_, ?_⟩ <;> assumption)
    (first | (go_at_call 82; refine (assemble_abc _).mono ?_; rintro e w1 ⟨rfl, hw1⟩; obtain rfl := hw1))
  go_wp2_with fail
  refine (put_abc b 3 48 48 cs t _ (by exact Hh.out) (by omega) (by omega) (by omega) (by omega)).mono ?_
  rintro e w2 ⟨rfl, k1, k2⟩
  have K1 := Lib.hid k1
  have K2 := Lib.hid k2
  clear k1 k2
  go_wp2_with fail
  rw [rounds_succ]
  go_wp2_with fail
  refine wp_loop_rounds 1 ?_
  rw [rounds_succ]
  go_wp2_with fail
  go_ret2
  exact ⟨rfl, K1.out, Fr.trans Fr.drew K2.out (fun _ _ h => h)⟩
end Go.Proofs.YtempflfhlbojgaaDoor
