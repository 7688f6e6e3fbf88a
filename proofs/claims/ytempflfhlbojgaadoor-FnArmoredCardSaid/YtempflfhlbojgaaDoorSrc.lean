/-
  The reader's side. The walks of source.Read.
-/
import Derived.Test.YtempflfhlbojgaaDoorArmored
namespace Go.Proofs.YtempflfhlbojgaaDoor
open Go.RowKit

set_option maxHeartbeats 4000000 in
set_option maxRecDepth 100000 in
theorem source_end (sb : Nat) (a : Option Addr) (c : Nat) (p E : Value) (w : World) (hE : w.cell? ⟨0, 0, none⟩ = some E) (h : w.heap[sb]? = some (.cells #[.slice a 0 c, .int .i64 0] 52 (0, 0))) :
    Calls Tryd.prog 59 #[.pointer (some ⟨sb, 0, none⟩), p] w fun e w' => e = .returned (.tuple #[.int .i64 0, E]) ∧ ∃ n, w.drewN n = w' := by
  have c0 : w.cell? ⟨sb, 0, none⟩ = some (.slice a 0 c) := by rw [cell_of_row _ _ _ _ _ _ h]; rfl
  clear h
  go_enter Tryd.func59, Tryd.ntmps59
  go_wp2_with fail
  go_quiet (fail)
  go_wp2_with fail
  go_ret2
  exact ⟨rfl, _, rfl⟩

theorem cell0_set {w : World} {b : Nat} {x y v : Value} {t : TypeId} (h : w.heap[b]? = some (.cells #[x, y] t (0, 0))) : (w.setCell ⟨b, 0, none⟩ v).heap[b]? = some (.cells #[v, y] t (0, 0)) := by
  have := Lib.heap_setCell_same (i := 0) h v
  simpa using this

/-- A slice of bytes that stand in a row known whole. -/
theorem At.splice {w : World} {g off : Nat} {cur : List Value} {l : List UInt8} {t : TypeId} (h : w.heap[g]? = some (.cells (Go.splice cur off (Lib.byteCells l)).toArray t (0, 0))) (hfit : off + l.length ≤ cur.length) : At w ⟨g, off, none⟩ l := by
  refine At.mk fun i hi => ?_
  rw [cell_of_row _ _ _ _ _ _ h, List.getElem?_toArray, splice_get _ _ _ _ (by rw [byteCells_length]; exact hfit), if_pos (by rw [byteCells_length]; omega), Nat.add_sub_cancel_left, byteCells_get, List.getElem?_eq_getElem hi]
  rfl

set_option maxHeartbeats 4000000 in
set_option maxRecDepth 100000 in
theorem source_all (sb xb bb n c : Nat) (T : List UInt8) (row : Array Value) (w : World) (h : w.heap[sb]? = some (.cells #[.slice (some ⟨xb, 0, none⟩) n c, .int .i64 0] 52 (0, 0))) (hb : w.heap[bb]? = some (.cells row 5 (0, 0))) (hrow : row.size = 4096)
    (hat : At w ⟨xb, 0, none⟩ T) (hT : T.length = n) (h1 : 1 ≤ n) (h2 : n ≤ 4096) (hc : n ≤ c) (_hc2 : c ≤ 9223372036854775807) (_hxb : xb ≠ bb) (hsb : sb ≠ bb) :
    Calls Tryd.prog 59 #[.pointer (some ⟨sb, 0, none⟩), .slice (some ⟨bb, 0, none⟩) 4096 4096] w fun e w' => e = .returned (.tuple #[.int .i64 n, .nilIface]) ∧
      (∃ a c', w'.heap[sb]? = some (.cells #[.slice a 0 c', .int .i64 0] 52 (0, 0))) ∧ w'.heap[bb]? = some (.cells (splice row.toList 0 (Lib.byteCells T)).toArray 5 (0, 0)) ∧ Fr (fun k => k = sb ∨ k = bb) w w' := by
  have c0 : w.cell? ⟨sb, 0, none⟩ = some (.slice (some ⟨xb, 0, none⟩) n c) := by rw [cell_of_row _ _ _ _ _ _ h]; rfl
  have c1 : w.cell? ⟨sb, 1, none⟩ = some (.int .i64 0) := by rw [cell_of_row _ _ _ _ _ _ h]; rfl
  have Hh := Lib.hid h
  have Hb := Lib.hid hb
  have Hat := Lib.hid hat
  have HT := Lib.hid hT
  have i1 : (n : Int) ≤ (c : Int) := by omega
  have i2 : (0 : Int) ≤ (n : Int) := by omega
  have i3 : ((n : Int) == 0) = false := by simp; omega
  have hl : (Lib.byteCells T).length = n := by rw [byteCells_length, hT]
  have Hl := Lib.hid hl
  have hat7 : 0 < n → ∃ ad, (some ⟨xb, 0, none⟩ : Option Addr) = some ad ∧ ∀ j v, (Lib.byteCells T)[j]? = some v → w.cell? (ad.add j) = some v := fun _ => ⟨_, rfl, hat⟩
  have Hat7 := Lib.hid hat7
  clear h hb hat hT hl hat7
  go_enter Tryd.func59, Tryd.ntmps59
  go_wp2_with (with_reducible refine wpList_copy_fr rfl _ _ 22 22 rfl 5 Tryd.underlying22 size5 _ _ _ _ _ _ rfl rfl bb 0 n row 5 (by exact Hb.out) (Lib.byteCells T) Hl.out (Nat.min_eq_left (by omega)).symm (fun h => ⟨rfl, Hat7.out h⟩) (by omega) (row_oneCell _) ?_; intro w5 h5 f5; have g5 := Fr.keep f5.out Hh.out hsb; have d0 : w5.cell? ⟨sb, 0, none⟩ = some (.slice (some ⟨xb, 0, none⟩) n c) := (cell_of_row _ _ _ _ _ _ g5); have dz : w5.frozen? ⟨sb, 0, none⟩ = false := frozen_of_row _ _ _ _ _ g5; have G5 := Lib.hid g5; clear g5)
  all_goals
    go_ret2
    refine ⟨rfl, ⟨_, _, cell0_set G5.out⟩, ?_, ?_⟩
    · exact (Fr.setCell (S := (· = sb)) ⟨sb, 0, none⟩ _ rfl).keep h5.out (fun e => hsb e.symm)
    · exact (f5.out.mono (T := fun k => k = sb ∨ k = bb) (fun _ _ h => .inr h)).trans (Fr.setCell (S := (· = sb)) ⟨sb, 0, none⟩ _ rfl) (fun _ _ h => .inl h)
end Go.Proofs.YtempflfhlbojgaaDoor
