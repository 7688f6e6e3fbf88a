/-
  Words and small laws for the walk of base64's encoder.Write.
-/
import Derived.Test.YtempflfhlbojgaaDoorChain
import Derived.Laws.CopyOwn
namespace Go.Proofs.YtempflfhlbojgaaDoor
open Go.RowKit

theorem PendC.sz {eb bw : Nat} {pend : List UInt8} {cs : Array Value} (h : PendC eb bw pend cs) : cs.size = 1031 := h.1

/-- One byte more waits. -/
theorem PendC.push {eb bw : Nat} {pend : List UInt8} {cs : Array Value} (h : PendC eb bw pend cs) (x : UInt8) (hl : pend.length < 3) :
    PendC eb bw (pend ++ [x]) ((cs.setIfInBounds (3 + pend.length) (.int .u8 x.toNat)).setIfInBounds 6 (.int .i64 (pend.length + 1 : Nat))) := by
  obtain ⟨h0, h1, h2, h3, h4, h5, h6⟩ := h
  refine ⟨by simp [h0], ?_, ?_, ?_, ?_, ?_, by simp; omega⟩
  · rw [Array.getElem?_setIfInBounds_ne (by omega), Array.getElem?_setIfInBounds_ne (by omega), h1]
  · rw [Array.getElem?_setIfInBounds_ne (by omega), Array.getElem?_setIfInBounds_ne (by omega), h2]
  · rw [Array.getElem?_setIfInBounds_ne (by omega), Array.getElem?_setIfInBounds_ne (by omega), h3]
  · intro i hi
    simp only [List.length_append, List.length_cons, List.length_nil] at hi
    rw [Array.getElem?_setIfInBounds_ne (by omega)]
    by_cases he : i = pend.length
    · subst he
      rw [Array.getElem?_setIfInBounds_self_of_lt (by omega)]; simp
    · rw [Array.getElem?_setIfInBounds_ne (by omega), h4 i (by omega)]
      rw [List.getElem_append_left (by omega)]
  · rw [Array.getElem?_setIfInBounds_self_of_lt (by simp; omega)]; simp

/-- The signs written out behind the rest. -/
theorem PendC.spliced {eb bw : Nat} {pend : List UInt8} {cs cs' : Array Value} {out : List UInt8} (h : PendC eb bw pend cs) (hs : Spliced cs cs' 7 out) : PendC eb bw pend cs' := by
  obtain ⟨h0, h1, h2, h3, h4, h5, h6⟩ := h
  obtain ⟨s1, s2, s3⟩ := hs
  refine ⟨by rw [s1, h0], ?_, ?_, ?_, fun i hi => ?_, ?_, h6⟩
  · rw [s2 0 (.inl (by omega)), h1]
  · rw [s2 1 (.inl (by omega)), h2]
  · rw [s2 2 (.inl (by omega)), h3]
  · rw [s2 _ (.inl (by omega)), h4 i hi]
  · rw [s2 6 (.inl (by omega)), h5]

theorem PendC.err {eb bw : Nat} {pend : List UInt8} {cs : Array Value} (h : PendC eb bw pend cs) : PendC eb bw pend (cs.setIfInBounds 0 .nilIface) := by
  obtain ⟨h0, h1, h2, h3, h4, h5, h6⟩ := h
  refine ⟨by simp [h0], by rw [Array.getElem?_setIfInBounds_self_of_lt (by omega)], ?_, ?_, fun i hi => ?_, ?_, h6⟩
  · rw [Array.getElem?_setIfInBounds_ne (by omega), h2]
  · rw [Array.getElem?_setIfInBounds_ne (by omega), h3]
  · rw [Array.getElem?_setIfInBounds_ne (by omega), h4 i hi]
  · rw [Array.getElem?_setIfInBounds_ne (by omega), h5]

theorem PendC.zero {eb bw : Nat} {pend : List UInt8} {cs : Array Value} (h : PendC eb bw pend cs) : PendC eb bw [] (cs.setIfInBounds 6 (.int .i64 0)) := by
  obtain ⟨h0, h1, h2, h3, h4, h5, h6⟩ := h
  refine ⟨by simp [h0], ?_, ?_, ?_, fun i hi => by simp at hi, ?_, by simp⟩
  · rw [Array.getElem?_setIfInBounds_ne (by omega), h1]
  · rw [Array.getElem?_setIfInBounds_ne (by omega), h2]
  · rw [Array.getElem?_setIfInBounds_ne (by omega), h3]
  · rw [Array.getElem?_setIfInBounds_self_of_lt (by omega)]; rfl

theorem Pend.at {cb eb bw : Nat} {pend : List UInt8} {w : World} (h : Pend cb eb bw pend w) : At w ⟨cb, 3, none⟩ pend := by
  obtain ⟨cs, hb, h0, h1, h2, h3, h4, h5, h6⟩ := h
  exact At.mk fun i hi => by rw [cell_of_row _ _ _ _ _ _ hb, h4 i hi]

/-- The cells that the walks read. -/
theorem Pend.cells {cb eb bw : Nat} {pend : List UInt8} {w : World} (h : Pend cb eb bw pend w) :
    w.cell? ⟨cb, 0, none⟩ = some .nilIface ∧ w.cell? ⟨cb, 1, none⟩ = some (.pointer (some ⟨eb, 0, none⟩)) ∧ w.cell? ⟨cb, 2, none⟩ = some (.iface 86 (.func (.func 33) #[.pointer (some ⟨bw, 0, none⟩)] #[])) ∧
      w.cell? ⟨cb, 6, none⟩ = some (.int .i64 pend.length) ∧ (∀ i, w.frozen? ⟨cb, i, none⟩ = false) ∧ cb < w.heap.size := by
  obtain ⟨cs, hb, h0, h1, h2, h3, h4, h5, h6⟩ := h
  have e := fun i => cell_of_row w cb i _ _ _ hb
  refine ⟨by rw [e, h1], by rw [e, h2], by rw [e, h3]; rfl, by rw [e, h5], fun i => frozen_of_row _ _ _ _ _ hb, (Array.getElem?_eq_some_iff.1 hb).1⟩

theorem encode_len (db d0 dl sb so sc L eb : Nat) (t : TypeId) (src : List UInt8) (cs : Array Value) (w : World) (hw : w.heap[db]? = some (.cells cs t (0, 0))) (he : Enc eb w) (hne : eb ≠ db)
    (hs : At w ⟨sb, so, none⟩ src) (hap : sb ≠ db ∨ so + L ≤ d0) (hl : src.length = L) (h1 : 1 ≤ L) (hsc : L ≤ sc) (hsc2 : sc ≤ 9223372036854775807) (hdl : (b64 src).length ≤ dl) (hdl2 : dl ≤ 100000) (hfit : d0 + dl ≤ cs.size) (hL : L ≤ 768) :
    Calls Tryd.prog 101 #[.pointer (some ⟨eb, 0, none⟩), .slice (some ⟨db, d0, none⟩) dl dl, .slice (some ⟨sb, so, none⟩) L sc] w fun e w' => e = .returned (.tuple #[]) ∧
      ∃ cs', w'.heap[db]? = some (.cells cs' t (0, 0)) ∧ Spliced cs cs' d0 (b64 src) ∧ Fr (· = db) w w' := by
  subst hl
  exact encode_any db d0 dl sb so sc eb t src cs w hw he hne hs hap h1 hsc hsc2 hdl hdl2 hfit hL

theorem spliced_at {db d0 : Nat} {t : TypeId} {cs cs' : Array Value} {out : List UInt8} {w : World} (hb : w.heap[db]? = some (.cells cs' t (0, 0))) (hs : Spliced cs cs' d0 out) : At w ⟨db, d0, none⟩ out :=
  At.mk fun i hi => by rw [cell_of_row _ _ _ _ _ _ hb, hs.2.2 i hi]

theorem nil_ahead86 (F : Nat) (v : Value) (w : World) : (nilAhead (F + 1) 86 (.func (.func 33) #[v] #[]) "Write").run Tryd.prog w = .ok (some false) w := by kernel_rfl
theorem method86 (F : Nat) (v : Value) (w : World) : (method (F + 1) 86 (.func (.func 33) #[v] #[]) "Write").run Tryd.prog w = .ok (98, .func (.func 33) #[v] #[]) w := by kernel_rfl

theorem wfunc_len (X : Nat → Prop) (B cb bw bo n pb po c L : Nat) (ps out : List UInt8) (w : World) (h : Chain X B cb bw bo n out w) (hps : At w ⟨pb, po, none⟩ ps) (hX : X pb) (hl : ps.length = L) (hL : 1 ≤ L) (hL2 : L ≤ 4096) (hc : L ≤ c) (hc2 : c ≤ 100000) (hn : n ≤ 100000) (hout : out.length ≤ 200000) :
    Calls Tryd.prog 98 #[.func (.func 33) #[.pointer (some ⟨bw, 0, none⟩)] #[], .slice (some ⟨pb, po, none⟩) L c] w fun e w' => e = .returned (.tuple #[.int .i64 L, .nilIface]) ∧ Chain X B cb bw bo (n + L) (out ++ wrap n ps) w' ∧ Fr (fun k => ¬ X k) w w' := by
  subst hl
  exact wfunc_write X B cb bw bo n pb po c ps out w h hps hX hL hL2 hc hc2 hn hout

/-- copy into a row that is known whole; what else stands is untouched. -/
theorem wpList_copy_fr {P : Program} {w : World} {ops : Array Oper} {rest : List Oper} {o : Oper} {a : Act} {Q : Exit → Act → World → Prop} (hgd : o.guard = none) (d s : Operand) (dT sT : TypeId)
    (ho : o.op = .call { callee := .builtin .copy, args := #[d, s], argTypes := #[dT, sT] }) (elem : TypeId) (hu : P.underlying dT = some (.slice elem)) (hsz : (P.info? elem).map (·.size) = some 1)
    (dp sp : Option Addr) (dLen dCap sLen sCap : Nat) (hd : a.eval d = .slice dp dLen dCap) (hs : a.eval s = .slice sp sLen sCap)
    (g off m : Nat) (cur : Array Value) (t : TypeId) (hg : w.heap[g]? = some (.cells cur t (0, 0))) (cs : List Value) (hm : cs.length = m) (hn : m = Nat.min sLen dLen)
    (hpos : 0 < m → dp = some ⟨g, off, none⟩ ∧ ∃ ad, sp = some ad ∧ ∀ j v, cs[j]? = some v → w.cell? (ad.add j) = some v)
    (hfit : off + m ≤ cur.size) (h1 : ∀ v ∈ cs, v.oneCell' = true)
    (h : ∀ w', Hid (w'.heap[g]? = some (.cells (splice cur.toList off cs).toArray t (0, 0))) → Hid (Fr (· = g) w w') → wpList P ops Q rest (a.put o.dst (goInt m)) w') :
    wpList P ops Q (o :: rest) a w := by
  subst hm
  by_cases h0 : cs.length = 0
  · obtain rfl : cs = [] := List.eq_nil_of_length_eq_zero h0
    refine wpList_copy_nothing hgd d s dT sT ho elem hu hsz dp sp dLen dCap sLen sCap hd hs (by simpa using hn.symm) ?_
    exact h w (show _ = _ by simpa [splice] using hg) (Fr.refl _ _)
  · obtain ⟨rfl, ad, rfl, hsrc⟩ := hpos (by omega)
    refine wpList_copy_own hgd d s dT sT ho elem hu hsz g off dLen dCap ad sLen sCap hd hs cur t hg cs hn hsrc hfit h1 ?_
    exact h _ (setRow_heap _ _ _ _ _ _ hg) (Fr.setRow _ _ rfl)

theorem splice_get {α : Type} (L : List α) (off : Nat) (cs : List α) (i : Nat) (h : off + cs.length ≤ L.length) : (splice L off cs)[i]? = if off ≤ i ∧ i < off + cs.length then cs[i - off]? else L[i]? := by
  unfold splice
  by_cases h1 : i < off
  · rw [List.getElem?_append_left (by rw [List.length_take]; omega), if_neg (by omega), List.getElem?_take_of_lt h1]
  · rw [List.getElem?_append_right (by rw [List.length_take]; omega), List.length_take, Nat.min_eq_left (by omega)]
    by_cases h2 : i < off + cs.length
    · rw [if_pos ⟨by omega, h2⟩, List.getElem?_append_left (by omega)]
    · rw [if_neg (by omega), List.getElem?_append_right (by omega), List.getElem?_drop]
      congr 1; omega

/-- What is left over waits. -/
theorem PendC.rest {eb bw : Nat} {cs : Array Value} (h : PendC eb bw [] cs) (l : List UInt8) (hl : l.length ≤ 3) :
    PendC eb bw l ((splice cs.toList 3 (Lib.byteCells l)).toArray.setIfInBounds 6 (.int .i64 l.length)) := by
  obtain ⟨h0, h1, h2, h3, h4, h5, h6⟩ := h
  have hfit : 3 + (Lib.byteCells l).length ≤ cs.toList.length := by rw [byteCells_length]; simp; omega
  have hlen : (splice cs.toList 3 (Lib.byteCells l)).length = 1031 := by rw [length_splice _ _ _ hfit]; simpa using h0
  have hg : ∀ i, i < 3 → (splice cs.toList 3 (Lib.byteCells l)).toArray[i]? = cs[i]? := fun i hi => by
    rw [List.getElem?_toArray, splice_get _ _ _ _ hfit, if_neg (by omega)]; simp
  refine ⟨by simp [hlen], ?_, ?_, ?_, fun i hi => ?_, ?_, hl⟩
  · rw [Array.getElem?_setIfInBounds_ne (by omega), hg 0 (by omega), h1]
  · rw [Array.getElem?_setIfInBounds_ne (by omega), hg 1 (by omega), h2]
  · rw [Array.getElem?_setIfInBounds_ne (by omega), hg 2 (by omega), h3]
  · rw [Array.getElem?_setIfInBounds_ne (by omega), List.getElem?_toArray, splice_get _ _ _ _ hfit, if_pos (by rw [byteCells_length]; omega), Nat.add_sub_cancel_left, byteCells_get, List.getElem?_eq_getElem hi]
    rfl
  · rw [Array.getElem?_setIfInBounds_self_of_lt (by simp [hlen])]

/-- What stands behind the leading fringe and at the head of each round of the second loop: k bytes are taken. -/
structure Tail (X : Nat → Prop) (B cb eb bw bo n pb po : Nat) (pend ps out : List UInt8) (w : World) (k : Nat) (a : Option Addr) (wr : World) : Prop where
  le : k ≤ ps.length
  addr : k < ps.length → a = some ⟨pb, po + k, none⟩
  div : (pend.length + k) % 3 = 0
  waits : Pend cb eb bw [] wr
  chain : Chain X B cb bw bo (n + (pend.length + k) / 3 * 4) (out ++ wrap n (b64 ((pend ++ ps).take (pend.length + k)))) wr
  fr : Fr (fun j => j = cb ∨ ¬ X j) w wr

theorem Tail.bound {X : Nat → Prop} {B cb eb bw bo n pb po : Nat} {pend ps out : List UInt8} {w : World} {k : Nat} {a : Option Addr} {wr : World} (h : Tail X B cb eb bw bo n pb po pend ps out w k a wr) (hpl : pend.length ≤ 2) (hL2 : ps.length ≤ 5000) (hout : out.length ≤ 100000) :
    (out ++ wrap n (b64 ((pend ++ ps).take (pend.length + k)))).length ≤ 200000 := by
  have h1 := wrap_length_le (b64 ((pend ++ ps).take (pend.length + k))) n
  have h2 := b64_length ((pend ++ ps).take (pend.length + k))
  have h3 := h.le
  rw [List.length_take] at h2
  rw [List.length_append]
  omega

/-- What a round wrote. -/
theorem tail_text (pend ps out : List UInt8) (n k m : Nat) (hd : (pend.length + k) % 3 = 0) (hk : k + m ≤ ps.length) :
    (out ++ wrap n (b64 ((pend ++ ps).take (pend.length + k)))) ++ wrap (n + (pend.length + k) / 3 * 4) (b64 ((ps.drop k).take m)) = out ++ wrap n (b64 ((pend ++ ps).take (pend.length + (k + m)))) := by
  have hl : ((pend ++ ps).take (pend.length + k)).length = pend.length + k := by rw [List.length_take, List.length_append]; omega
  have hb : (b64 ((pend ++ ps).take (pend.length + k))).length = (pend.length + k) / 3 * 4 := by rw [b64_length, hl]; omega
  rw [List.append_assoc, ← hb, ← wrap_append, ← b64_append _ _ (by rw [hl]; exact hd)]
  congr 3
  have e : (ps.drop k) = (pend ++ ps).drop (pend.length + k) := by rw [List.drop_append]; simp
  rw [e, ← List.take_add, show pend.length + k + m = pend.length + (k + m) from by omega]

theorem tail_next {X : Nat → Prop} {B cb eb bw bo n pb po : Nat} {pend ps out : List UInt8} {w : World} {k m L M : Nat} {a a' : Option Addr} {wr w2 : World} (h : Tail X B cb eb bw bo n pb po pend ps out w k a wr) (hm : k + m ≤ ps.length) (hm3 : m % 3 = 0) (hM : M = m / 3 * 4) (hL : L = n + (pend.length + k) / 3 * 4)
    (hA : k + m < ps.length → a' = some ⟨pb, po + (k + m), none⟩) (hp : Pend cb eb bw [] w2) (hc : Chain X B cb bw bo (L + M) ((out ++ wrap n (b64 ((pend ++ ps).take (pend.length + k)))) ++ wrap L (b64 ((ps.drop k).take m))) w2)
    (hf : Fr (fun j => j = cb ∨ ¬ X j) wr w2) : Tail X B cb eb bw bo n pb po pend ps out w (k + m) a' w2 := by
  have hd := h.div
  subst hM hL
  rw [tail_text pend ps out n k m hd hm] at hc
  refine ⟨hm, hA, by omega, hp, ?_, h.fr.trans hf (fun _ _ h => h)⟩
  rw [show n + (pend.length + (k + m)) / 3 * 4 = n + (pend.length + k) / 3 * 4 + m / 3 * 4 from by omega]
  exact hc

/-- What stands at the head of each round of the first loop: i bytes are taken. -/
structure Fringe (cb eb bw pb po c : Nat) (pend ps : List UInt8) (w wr : World) (i : Nat) : Prop where
  le : i ≤ ps.length
  pend : Pend cb eb bw (pend ++ ps.take i) wr
  fr : Fr (· = cb) w wr

end Go.Proofs.YtempflfhlbojgaaDoor
