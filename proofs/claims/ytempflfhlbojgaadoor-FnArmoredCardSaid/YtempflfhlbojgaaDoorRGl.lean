/-
  The lines of the armored "abc", one after another: getLine at each; and the words on armoredReader's block.
-/
import Derived.Test.YtempflfhlbojgaaDoorRDr
import Derived.Test.YtempflfhlbojgaaDoorRSf
namespace Go.Proofs.YtempflfhlbojgaaDoor
open Go.RowKit

/-- The first line and the last line, without their ends. -/
def hd34 : List UInt8 := [45, 45, 45, 45, 45, 66, 69, 71, 73, 78, 32, 65, 71, 69, 32, 69, 78, 67, 82, 89, 80, 84, 69, 68, 32, 70, 73, 76, 69, 45, 45, 45, 45, 45]
def ft32 : List UInt8 := [45, 45, 45, 45, 45, 69, 78, 68, 32, 65, 71, 69, 32, 69, 78, 67, 82, 89, 80, 84, 69, 68, 32, 70, 73, 76, 69, 45, 45, 45, 45, 45]
/-- The armored "abc". -/
def abcText : List UInt8 := hd34 ++ 10 :: ([89, 87, 74, 106] ++ 10 :: (ft32 ++ [10]))
theorem abcText_length : abcText.length = 73 := by decide
theorem abcText_armor : armorText [97, 98, 99] = abcText := by decide +kernel

/-- The first line: the buffer is filled. -/
theorem line_first (vb arb rb bb sb xb c : Nat) (lb lr : Int) (pE : Addr) (row : Array Value) (w : World) (hE : w.cell? ⟨0, 0, none⟩ = some (.iface 108 (.pointer (some pE)))) (hv : w.cell? ⟨vb, 0, none⟩ = some (.pointer (some ⟨arb, 0, none⟩))) (ha : w.cell? ⟨arb, 0, none⟩ = some (.pointer (some ⟨rb, 0, none⟩)))
    (hr : Rdr rb bb sb 0 0 lb lr w) (h : w.heap[sb]? = some (.cells #[.slice (some ⟨xb, 0, none⟩) 73 c, .int .i64 0] 52 (0, 0))) (hb : w.heap[bb]? = some (.cells row 5 (0, 0))) (hrow : row.size = 4096)
    (hatx : At w ⟨xb, 0, none⟩ abcText) (hc : 73 ≤ c) (hc2 : c ≤ 9223372036854775807) (hxb : xb ≠ bb) (hsb : sb ≠ bb) (hrs : rb ≠ sb) (hrb : rb ≠ bb) (hs0 : sb ≠ 0) (hb0 : bb ≠ 0) (hr0 : rb ≠ 0) :
    Calls Tryd.prog 65 #[.pointer (some ⟨vb, 0, none⟩)] w fun e w' => ∃ g, e = .returned (.tuple #[.slice (some ⟨g, 0, none⟩) 34 35, .nilIface]) ∧ w.heap.size ≤ g ∧ At w' ⟨g, 0, none⟩ hd34 ∧ Rdr rb bb sb 35 73 10 (-1) w' ∧ (∃ a c', w'.heap[sb]? = some (.cells #[.slice a 0 c', .int .i64 0] 52 (0, 0))) ∧
      At w' ⟨bb, 0, none⟩ abcText ∧ Fr (fun k => k = sb ∨ k = bb ∨ k = rb) w w' := by
  have h84 := readSlice_first rb bb sb xb 73 c 34 lb lr abcText hd34 _ row w hr h hb hrow hatx abcText_length (by omega) hc hc2 hxb hsb hrs hrb rfl (by decide) (by decide)
  refine (getLine_of vb arb rb bb 0 34 4096 pE hd34 w (fun w' => Rdr rb bb sb 35 73 10 (-1) w' ∧ (∃ a c', w'.heap[sb]? = some (.cells #[.slice a 0 c', .int .i64 0] 52 (0, 0))) ∧ At w' ⟨bb, 0, none⟩ abcText ∧ Fr (fun k => k = sb ∨ k = bb ∨ k = rb) w w') hE hv ha (by decide) (by omega) (by decide)
    (fun w' k => k.2.2.2.cell hE (by rintro (e | e | e); exact hs0 e.symm; exact hb0 e.symm; exact hr0 e.symm)) (fun w' k => by have q := k.2.2.1.drop 0 35; exact q) h84).mono ?_
  rintro e w' ⟨g, w1, rfl, ⟨k1, ⟨a, c', k2⟩, k3, k4⟩, hg, hat, f⟩
  exact ⟨g, rfl, Nat.le_trans k4.size hg, hat, k1.fr f (fun h => h), ⟨a, c', f.keep k2 (fun h => h)⟩, k3.fr f (fun h => h), k4.trans f (fun _ _ h => h.elim)⟩

/-- A later line. -/
theorem line_next (vb arb rb bb sb r m : Nat) (lb lr : Int) (pre rest : List UInt8) (pE : Addr) (w : World) (hE : w.cell? ⟨0, 0, none⟩ = some (.iface 108 (.pointer (some pE)))) (hv : w.cell? ⟨vb, 0, none⟩ = some (.pointer (some ⟨arb, 0, none⟩))) (ha : w.cell? ⟨arb, 0, none⟩ = some (.pointer (some ⟨rb, 0, none⟩)))
    (hr : Rdr rb bb sb r 73 lb lr w) (hat : At w ⟨bb, 0, none⟩ abcText) (hsp : abcText.drop r = pre ++ 10 :: rest) (hrn : r ≤ 73) (hpre : (10 : UInt8) ∉ pre) (h13 : pre.getLast? ≠ some 13) (hm : pre.length = m) (hrb : rb ≠ bb) (hr0 : rb ≠ 0) :
    Calls Tryd.prog 65 #[.pointer (some ⟨vb, 0, none⟩)] w fun e w' => ∃ g, e = .returned (.tuple #[.slice (some ⟨g, 0, none⟩) m (m + 1), .nilIface]) ∧ w.heap.size ≤ g ∧ At w' ⟨g, 0, none⟩ pre ∧ Rdr rb bb sb (r + (m + 1)) 73 10 (-1) w' ∧
      At w' ⟨bb, 0, none⟩ abcText ∧ Fr (· = rb) w w' := by
  have hlen : r + (m + 1) ≤ 73 := by
    have := congrArg List.length hsp
    rw [List.length_drop, abcText_length, List.length_append, List.length_cons, hm] at this
    omega
  have h84 := readSlice_found rb bb sb r 73 m lb lr abcText pre rest w hr hat abcText_length (by omega) hrn hsp hpre hm hrb
  refine (getLine_of vb arb rb bb r m (4096 - r) pE pre w (fun w' => Rdr rb bb sb (r + (m + 1)) 73 10 (-1) w' ∧ Fr (· = rb) w w') hE hv ha hm (by omega) h13
    (fun w' k => k.2.cell hE (fun e => hr0 e.symm)) (fun w' k => ?_) h84).mono ?_
  · have q := (hat.fr k.2 (fun e => hrb e.symm)).drop r (m + 1)
    rw [hsp, Nat.zero_add, show (pre ++ 10 :: rest).take (m + 1) = pre ++ [10] from by subst hm; rw [List.take_length_add_append]; rfl] at q
    exact q
  · rintro e w' ⟨g, w1, rfl, ⟨k1, k2⟩, hg, hat', f⟩
    exact ⟨g, rfl, Nat.le_trans k2.size hg, hat', k1.fr f (fun h => h), (hat.fr k2 (fun e => hrb e.symm)).fr f (fun h => h), k2.trans f (fun _ _ h => h.elim)⟩

/-- armoredReader's block. -/
def Ar (arb rb : Nat) (st : Bool) (u E : Value) (w : World) : Prop := ∃ cs, w.heap[arb]? = some (.cells cs 70 (0, 0)) ∧ cs.size = 52 ∧ cs[0]? = some (.pointer (some ⟨rb, 0, none⟩)) ∧ cs[1]? = some (.bool st) ∧ cs[2]? = some u ∧ cs[51]? = some E

theorem Ar.fr {S : Nat → Prop} {arb rb : Nat} {st : Bool} {u E : Value} {w w' : World} (h : Ar arb rb st u E w) (hf : Fr S w w') (hn : ¬ S arb) : Ar arb rb st u E w' := by
  obtain ⟨cs, h1, h2⟩ := h
  exact ⟨cs, hf.keep h1 hn, h2⟩
theorem Ar.cells {arb rb : Nat} {st : Bool} {u E : Value} {w : World} (h : Ar arb rb st u E w) : w.cell? ⟨arb, 0, none⟩ = some (.pointer (some ⟨rb, 0, none⟩)) ∧ w.cell? ⟨arb, 1, none⟩ = some (.bool st) ∧ w.cell? ⟨arb, 2, none⟩ = some u ∧ w.cell? ⟨arb, 51, none⟩ = some E ∧ (∀ i, w.frozen? ⟨arb, i, none⟩ = false) ∧ arb < w.heap.size := by
  obtain ⟨cs, h1, h2, h3, h4, h5, h6⟩ := h
  have e := fun i => cell_of_row w arb i _ _ _ h1
  exact ⟨(e 0).trans h3, (e 1).trans h4, (e 2).trans h5, (e 51).trans h6, fun i => frozen_of_row _ _ _ _ _ h1, (Array.getElem?_eq_some_iff.1 h1).1⟩
theorem Ar.set1 {arb rb : Nat} {st : Bool} {u E : Value} {w : World} (h : Ar arb rb st u E w) (b : Bool) : Ar arb rb b u E (w.setCell ⟨arb, 1, none⟩ (.bool b)) := by
  obtain ⟨cs, h1, h2, h3, h4, h5, h6⟩ := h
  exact ⟨_, Lib.heap_setCell_same h1 _, by simp [h2], by rw [Array.getElem?_setIfInBounds_ne (by omega), h3], by rw [Array.getElem?_setIfInBounds_self_of_lt (by omega)], by rw [Array.getElem?_setIfInBounds_ne (by omega), h5], by rw [Array.getElem?_setIfInBounds_ne (by omega), h6]⟩
theorem Ar.set2 {arb rb : Nat} {st : Bool} {u E : Value} {w : World} (h : Ar arb rb st u E w) (x : Value) : Ar arb rb st x E (w.setCell ⟨arb, 2, none⟩ x) := by
  obtain ⟨cs, h1, h2, h3, h4, h5, h6⟩ := h
  exact ⟨_, Lib.heap_setCell_same h1 _, by simp [h2], by rw [Array.getElem?_setIfInBounds_ne (by omega), h3], by rw [Array.getElem?_setIfInBounds_ne (by omega), h4], by rw [Array.getElem?_setIfInBounds_self_of_lt (by omega)], by rw [Array.getElem?_setIfInBounds_ne (by omega), h6]⟩
theorem Ar.set51 {arb rb : Nat} {st : Bool} {u E : Value} {w : World} (h : Ar arb rb st u E w) (x : Value) : Ar arb rb st u x (w.setCell ⟨arb, 51, none⟩ x) := by
  obtain ⟨cs, h1, h2, h3, h4, h5, h6⟩ := h
  exact ⟨_, Lib.heap_setCell_same h1 _, by simp [h2], by rw [Array.getElem?_setIfInBounds_ne (by omega), h3], by rw [Array.getElem?_setIfInBounds_ne (by omega), h4], by rw [Array.getElem?_setIfInBounds_ne (by omega), h5], by rw [Array.getElem?_setIfInBounds_self_of_lt (by omega)]⟩

/-- What a call of armoredReader.Read finds. -/
structure Sd (vb arb rb pb : Nat) (prow : Array Value) (st : Bool) (u E : Value) (pE : Addr) (w : World) : Prop where
  eof : w.cell? ⟨0, 0, none⟩ = some (.iface 108 (.pointer (some pE)))
  box : w.cell? ⟨vb, 0, none⟩ = some (.pointer (some ⟨arb, 0, none⟩))
  ar : Ar arb rb st u E w
  row : w.heap[pb]? = some (.cells prow 5 (0, 0))

theorem Sd.fr {S : Nat → Prop} {vb arb rb pb : Nat} {prow : Array Value} {st : Bool} {u E : Value} {pE : Addr} {w w' : World} (h : Sd vb arb rb pb prow st u E pE w) (hf : Fr S w w') (h0 : ¬ S 0) (hv : ¬ S vb) (ha : ¬ S arb) (hp : ¬ S pb) : Sd vb arb rb pb prow st u E pE w' :=
  ⟨hf.cell h.eof h0, hf.cell h.box hv, h.ar.fr hf ha, hf.keep h.row hp⟩
end Go.Proofs.YtempflfhlbojgaaDoor
