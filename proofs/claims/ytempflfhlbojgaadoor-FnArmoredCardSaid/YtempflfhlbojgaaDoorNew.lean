/-
  The walk of base64's NewEncoding at the standard signs.
-/
import Derived.Test.YtempflfhlbojgaaDoorEnc
import Derived.Test.YtempflfhlbojgaaDoorWrap
import Derived.Lib.BufferWrite
namespace Go.Proofs.YtempflfhlbojgaaDoor
open Go.RowKit

/-- Copying a string into a row that is known whole. -/
theorem wpList_copy_str {P : Program} {w : World} {ops : Array Oper} {rest : List Oper} {o : Oper} {a : Act} {Q : Exit → Act → World → Prop} (hgd : o.guard = none) (d s : Operand) (dT sT : TypeId)
    (ho : o.op = .call { callee := .builtin .copy, args := #[d, s], argTypes := #[dT, sT] }) (elem : TypeId) (hu : P.underlying dT = some (.slice elem)) (hsz : (P.info? elem).map (·.size) = some 1)
    (g off dLen dCap n : Nat) (str : ByteArray) (hd : a.eval d = .slice (some ⟨g, off, none⟩) dLen dCap) (hs : a.eval s = .string str) (bs : List UInt8) (hbs : str.data.toList = bs) (hn : bs.length = n)
    (cur : List Value) (t : TypeId) (hg : w.heap[g]? = some (.cells cur.toArray t (0, 0))) (hle : n ≤ dLen) (hfit : off + n ≤ cur.length)
    (h : ∀ w', Hid (w'.heap[g]? = some (.cells (cur.take off ++ Lib.byteCells bs ++ cur.drop (off + n)).toArray t (0, 0))) → Hid (Fr (· = g) w w') → wpList P ops Q rest (a.put o.dst (goInt n)) w') : wpList P ops Q (o :: rest) a w := by
  subst hbs
  have hz : str.size = n := by rw [← hn]; simp
  subst hz
  refine wpList_plain hgd fun K hK => ?_
  have hrun := Lib.run_copy_row_string (P := P) w dT sT o.type elem g off dLen dCap str cur.toArray t hu hsz hg hle (by simpa using hfit)
  unfold Oper.wp
  simp only [execOp, ho, resolve, invoke, builtin]
  simp [hd, hs, hrun, Result.andThen, -List.append_assoc]
  exact hK _ _ (h _ (setRow_heap _ _ _ _ _ _ hg) (Fr.setRow _ _ rfl))

/-- The decoding map after i signs. -/
def mp : Nat → Nat → Nat
  | 0, _ => 255
  | i + 1, c => if c = (sig i).toNat then i else mp i c

/-- An Encoding's cells after i signs. -/
def encCells (i : Nat) : Array Value := (Lib.byteCells signs ++ (List.range 256).map (fun c => Value.int .u8 (mp i c)) ++ [Value.int .i32 61, Value.bool false]).toArray

theorem encCells_size (i : Nat) : (encCells i).size = 322 := by simp [encCells, byteCells_length, signs_length]
theorem encCells_sig (i : Nat) {j : Nat} (hj : j < 64) : (encCells i)[j]? = some (.int .u8 (sig j).toNat) := by
  have hl : j < signs.length := by rw [signs_length]; exact hj
  have e : sig j = signs[j] := by simp [sig, List.getD, List.getElem?_eq_getElem hl]
  rw [e]
  simp only [encCells, List.getElem?_toArray, List.append_assoc]
  rw [List.getElem?_append_left (by rw [byteCells_length]; exact hl), byteCells_get, List.getElem?_eq_getElem hl]
  rfl
theorem encCells_map (i : Nat) {c : Nat} (hc : c < 256) : (encCells i)[64 + c]? = some (.int .u8 (mp i c)) := by
  simp only [encCells, List.getElem?_toArray, List.append_assoc]
  rw [List.getElem?_append_right (by rw [byteCells_length, signs_length]; omega), byteCells_length, signs_length, List.getElem?_append_left (by simp; omega)]
  simp [hc]
theorem encCells_pad (i : Nat) : (encCells i)[320]? = some (.int .i32 61) := by
  simp only [encCells, List.getElem?_toArray]
  rw [List.getElem?_append_right (by simp [byteCells_length, signs_length])]
  simp [byteCells_length, signs_length]
theorem encCells_strict (i : Nat) : (encCells i)[321]? = some (.bool false) := by
  simp only [encCells, List.getElem?_toArray]
  rw [List.getElem?_append_right (by simp [byteCells_length, signs_length])]
  simp [byteCells_length, signs_length]
theorem encCells_step (i : Nat) (_hi : i < 64) : (encCells i).setIfInBounds (64 + (sig i).toNat) (.int .u8 i) = encCells (i + 1) := by
  have hb := (sig i).toNat_lt
  apply Array.ext
  · simp [encCells_size]
  · intro k h1 h2
    simp only [Array.size_setIfInBounds, encCells_size] at h1
    apply Option.some.inj
    rw [← Array.getElem?_eq_getElem, ← Array.getElem?_eq_getElem]
    by_cases hk : k = 64 + (sig i).toNat
    · subst hk
      rw [encCells_map _ hb, Array.getElem?_setIfInBounds_self_of_lt (by rw [encCells_size]; omega), mp, if_pos rfl]
    · rw [Array.getElem?_setIfInBounds_ne (fun e => hk e.symm)]
      rcases (show k < 64 ∨ (64 ≤ k ∧ k < 320) ∨ k = 320 ∨ k = 321 from by omega) with h | ⟨h, h'⟩ | rfl | rfl
      · rw [encCells_sig _ h, encCells_sig _ h]
      · obtain ⟨c, rfl⟩ : ∃ c, k = 64 + c := ⟨k - 64, by omega⟩
        rw [encCells_map _ (by omega), encCells_map _ (by omega), mp, if_neg (by omega)]
      · rw [encCells_pad, encCells_pad]
      · rw [encCells_strict, encCells_strict]

theorem sig_ok : ∀ i, i < 64 → mp i (sig i).toNat = 255 ∧ (sig i).toNat ≠ 10 ∧ (sig i).toNat ≠ 13 := by decide +kernel

theorem zeroCells103_size : Tryd.zeroCells103.size = 322 := by kernel_rfl

theorem enc0 : (((List.take 64 (List.take 0 (Tryd.zeroCells103.setIfInBounds 320 (Value.int IntKind.i32 61)).toList ++ Lib.byteCells signs ++ List.drop (0 + 64) (Tryd.zeroCells103.setIfInBounds 320 (Value.int IntKind.i32 61)).toList) ++
                Lib.byteCells (List.replicate 256 255) ++
              List.drop (64 + 256) (List.take 0 (Tryd.zeroCells103.setIfInBounds 320 (Value.int IntKind.i32 61)).toList ++ Lib.byteCells signs ++ List.drop (0 + 64) (Tryd.zeroCells103.setIfInBounds 320 (Value.int IntKind.i32 61)).toList)).toArray) = encCells 0) := by kernel_rfl

set_option maxHeartbeats 4000000 in
set_option maxRecDepth 100000 in
theorem newEncoding_at (s : ByteArray) (w : World) (hs : s.data.toList = signs) :
    Calls Tryd.prog 34 #[.string s] w fun e w' => e = .returned (.pointer (some ⟨w.heap.size, 0, none⟩)) ∧ w'.heap[w.heap.size]? = some (.cells (encCells 64) 103 (0, 0)) ∧ Fr (fun _ => False) w w' := by
  have hz : s.size = 64 := by rw [← signs_length, ← hs]; simp
  have Hs := Lib.hid hs
  clear hs
  have hal := heap_alloc_new w (.cells (Tryd.zeroCells103.setIfInBounds 320 (Value.int IntKind.i32 61)) 103)
  obtain ⟨Z, hZ⟩ : ∃ Z, Z = (Tryd.zeroCells103.setIfInBounds 320 (Value.int IntKind.i32 61)).toList := ⟨_, rfl⟩
  have hZl : Z.length = 322 := by rw [hZ]; simp
  have Hal : Hid ((w.alloc (.cells (Tryd.zeroCells103.setIfInBounds 320 (Value.int IntKind.i32 61)) 103)).heap[w.heap.size]? = some (.cells Z.toArray 103 (0, 0))) := by
    rw [Hid, hZ, Array.toArray_toList]; exact hal
  have HZ := Lib.hid hZ
  clear hal hZ
  go_enter Tryd.func34, Tryd.ntmps34
  go_wp2_with (first
    | (refine wpList_copy_str rfl _ _ 22 9 rfl 5 Tryd.underlying22 size5 w.heap.size 0 64 64 64 s rfl rfl signs Hs.out rfl Z 103 Hal.out (Nat.le_refl _) (by rw [hZl]; decide) ?_; intro w1 h1 f1)
    | (refine wpList_copy_str rfl _ _ 22 9 rfl 5 Tryd.underlying22 size5 w.heap.size 64 256 256 256 _ rfl rfl (List.replicate 256 255) (by kernel_rfl) (by simp) _ 103 h1.out (Nat.le_refl _) (by simp [byteCells_length, signs_length, hZl]) ?_; intro w2 h2 f2))
  have h3 : w2.heap[w.heap.size]? = some (.cells (encCells 0) 103 (0, 0)) := by
    have := h2.out
    rw [HZ.out, enc0] at this
    exact this
  have f3 : Fr (fun _ => False) w w2 := by
    refine ((Fr.alloc (S := fun _ => False) _).trans f1.out (fun i hi h => ?_)).trans f2.out (fun i hi h => ?_)
    · omega
    · omega
  have H3 := Lib.hid h3
  have F3 := Lib.hid f3
  clear h1 f1 h2 f2 h3 f3 Hal
  go_loopw [4] (fun i4 wr => ∃ i : Nat, i ≤ 64 ∧ i4 = .int .i64 i ∧ wr.heap[w.heap.size]? = some (.cells (encCells i) 103 (0, 0)) ∧ Fr (fun _ => False) w wr) (fun i4 _ => 64 - (intOf i4).toNat)
  case atStart => exact ⟨0, by omega, rfl, H3.out, F3.out⟩
  case round =>
    obtain ⟨i, hi, rfl, hb, hf⟩ := hrel
    have Hf := Lib.hid hf
    have Hb := Lib.hid hb
    clear hf hb
    by_cases hlt : i < 64
    · obtain ⟨g1, g2, g3⟩ := sig_ok i hlt
      have hsz : (s[i]'(by omega)).toNat = (sig i).toNat := by
        have hl : i < signs.length := by rw [signs_length]; exact hlt
        have e : sig i = signs[i] := by simp [sig, List.getD, List.getElem?_eq_getElem hl]
        rw [e]
        simp only [← Hs.out]
        rfl
      have hbx := (sig i).toNat_lt
      have hcx : wr.cell? ⟨w.heap.size, 64 + (sig i).toNat, none⟩ = some (.int .u8 255) := by
        rw [cell_of_row _ _ _ _ _ _ Hb.out, encCells_map _ hbx, g1]; rfl
      have hfx : wr.frozen? ⟨w.heap.size, 64 + (sig i).toNat, none⟩ = false := frozen_of_row _ _ _ _ _ Hb.out
      obtain ⟨x, hx⟩ : ∃ x, x = (sig i).toNat := ⟨_, rfl⟩
      rw [← hx] at hsz g1 g2 g3 hbx hcx hfx
      have hx10 : ((x : Int) == 10) = false := by simp; omega
      have hx13 : ((x : Int) == 13) = false := by simp; omega
      have Hx := Lib.hid hx
      clear hx
      go_wp2_with fail
      go_quiet (fail)
      go_wp2_with fail
      have hwi : IntKind.u8.wrap (i : Int) = (i : Int) := by rw [IntKind.wrap]; simp [IntKind.bits, IntKind.signed]; omega
      go_region
      go_wp2_with fail
      refine ⟨⟨i + 1, by omega, by go_num, ?_, ?_⟩, ?_⟩
      · rw [Hx.out, ← encCells_step i hlt]
        exact Lib.heap_setCell_same (show (wr.drewN (nq + 1)).heap[w.heap.size]? = _ from Hb.out) _
      · exact (Hf.out.trans (Fr.drewN (S := fun _ => False) (nq + 1)) (fun _ _ h => h)).trans (T := fun j => j = w.heap.size) (Fr.setCell _ _ rfl) (fun j hj h => by omega)
      · simp [intOf]; omega
    · obtain rfl : i = 64 := by omega
      go_wp2_with fail
      go_returns
      exact ⟨rfl, Hb.out, Hf.out⟩
end Go.Proofs.YtempflfhlbojgaaDoor
