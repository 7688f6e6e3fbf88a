/-
  The walk of base64's Encode over the standard signs: the bytes that are handed in stand in base 64 where they are wanted; the rest of that block stands as it stood.
-/
import Derived.Test.YtempflfhlbojgaaDoorRows
import Derived.Test.YtempflfhlbojgaaDoorBits
import Derived.Test.YtempflfhlbojgaaDoorBase
import Derived.WalkKit
import Derived.Handy
import Derived.WalkSpells
import Derived.WalkLawsBesides
import Derived.Deep.QuietTactic
import Derived.BigQuiet
import Derived.Deep.RegionHeld3
import Derived.Deep.LoopGhost
namespace Go.Proofs.YtempflfhlbojgaaDoor
open Go.RowKit

/-- An Encoding at block eb, as far as Encode reads it: its signs and the sign that pads. -/
structure Enc (eb : Nat) (w : World) : Prop where
  sg : ∀ i, i < 64 → w.cell? ⟨eb, i, none⟩ = some (.int .u8 (sig i).toNat)
  pad : w.cell? ⟨eb, 320, none⟩ = some (.int .i32 61)

theorem Enc.range {eb : Nat} {w : World} (h : Enc eb w) : w.rangeAt eb 0 (Lib.byteCells signs) := by
  intro j v hj
  rw [byteCells_get] at hj
  by_cases hl : j < signs.length
  · rw [List.getElem?_eq_getElem hl] at hj
    rw [Nat.zero_add, h.sg j (by rw [signs_length] at hl; exact hl)]
    have : sig j = signs[j] := by simp [sig, List.getD, List.getElem?_eq_getElem hl]
    rw [this]; exact hj
  · rw [List.getElem?_eq_none (by omega)] at hj; cases hj

theorem Enc.fr {S : Nat → Prop} {eb : Nat} {w w' : World} (h : Enc eb w) (hf : Fr S w w') (hn : ¬ S eb) : Enc eb w' :=
  ⟨fun i hi => hf.cell (h.sg i hi) hn, hf.cell h.pad hn⟩

theorem info100 : (Tryd.prog.info? 100).map (·.size) = some (Lib.byteCells signs).length := by rw [byteCells_length, signs_length]; kernel_rfl

/-- cs' is cs with the bytes out from place o on. -/
def Spliced (cs cs' : Array Value) (o : Nat) (out : List UInt8) : Prop :=
  cs'.size = cs.size ∧ (∀ i, (i < o ∨ o + out.length ≤ i) → cs'[i]? = cs[i]?) ∧ ∀ i (h : i < out.length), cs'[o + i]? = some (.int .u8 out[i].toNat)

theorem Spliced.nil (cs : Array Value) (o : Nat) : Spliced cs cs o [] := ⟨rfl, fun _ _ => rfl, fun _ h => by simp at h⟩

/-- One byte more. -/
theorem Spliced.push {cs cs' : Array Value} {o : Nat} {out : List UInt8} (h : Spliced cs cs' o out) (x : UInt8) (hs : o + out.length < cs.size) :
    Spliced cs (cs'.setIfInBounds (o + out.length) (.int .u8 x.toNat)) o (out ++ [x]) := by
  obtain ⟨h1, h2, h3⟩ := h
  refine ⟨by simp [h1], fun i hi => ?_, fun i hi => ?_⟩
  · simp only [List.length_append, List.length_cons, List.length_nil] at hi
    rw [Array.getElem?_setIfInBounds_ne (by omega)]
    exact h2 i (by omega)
  · simp only [List.length_append, List.length_cons, List.length_nil] at hi
    by_cases hl : i < out.length
    · rw [Array.getElem?_setIfInBounds_ne (by omega), h3 i hl]
      simp [hl]
    · have e : i = out.length := by omega
      subst e
      have : o + out.length < cs'.size := by omega
      simp [this]

theorem Spliced.push4 {cs cs' : Array Value} {o n : Nat} {out : List UInt8} (h : Spliced cs cs' o out) (hn : n = out.length) (a b c d : UInt8) (hs : o + n + 4 ≤ cs.size) :
    Spliced cs ((((cs'.setIfInBounds (o + n) (.int .u8 a.toNat)).setIfInBounds (o + n + 1) (.int .u8 b.toNat)).setIfInBounds (o + n + 2) (.int .u8 c.toNat)).setIfInBounds (o + n + 3) (.int .u8 d.toNat)) o (out ++ [a, b, c, d]) := by
  subst hn
  have h1 := h.push a (by omega)
  have h2 := h1.push b (by simp; omega)
  have h3 := h2.push c (by simp; omega)
  have h4 := h3.push d (by simp; omega)
  simpa [Nat.add_assoc] using h4

/-- What stands at the head of each round. -/
structure ELoop (db d0 dl sb so sc eb : Nat) (t : TypeId) (src : List UInt8) (cs : Array Value) (w : World) (d1 s2 : Value) (wr : World) (j : Nat) (cs1 : Array Value) : Prop where
  le : 3 * j ≤ src.length
  d : ∃ a, d1 = .slice a (dl - 4 * j) (dl - 4 * j) ∧ (4 * j < dl → a = some ⟨db, d0 + 4 * j, none⟩)
  s : ∃ a, s2 = .slice a (src.length - 3 * j) (sc - 3 * j) ∧ (3 * j < src.length → a = some ⟨sb, so + 3 * j, none⟩)
  blk : wr.heap[db]? = some (.cells cs1 t (0, 0))
  spl : Spliced cs cs1 d0 (b64 (src.take (3 * j)))
  fr : Fr (· = db) w wr

theorem ELoop.src {db d0 dl sb so sc eb : Nat} {t : TypeId} {src : List UInt8} {cs : Array Value} {w : World} {d1 s2 : Value} {wr : World} {j : Nat} {cs1 : Array Value} (h : ELoop db d0 dl sb so sc eb t src cs w d1 s2 wr j cs1)
    (hw : w.heap[db]? = some (.cells cs t (0, 0))) (hs : At w ⟨sb, so, none⟩ src) (hap : sb ≠ db ∨ so + src.length ≤ d0) {i : Nat} (hi : i < src.length) : wr.cell? ⟨sb, so + i, none⟩ = some (.int .u8 (src.getD i 0).toNat) := by
  have h0 := hs.cell hi
  have e : (src.getD i 0) = src[i] := by simp [List.getD, List.getElem?_eq_getElem hi]
  rw [e]
  rcases hap with hap | hap
  · exact h.fr.cell h0 hap
  · by_cases hsd : sb = db
    · subst hsd
      rw [cell_of_row _ _ _ _ _ _ hw] at h0
      rw [cell_of_row _ _ _ _ _ _ h.blk, h.spl.2.1 _ (.inl (by omega))]
      exact h0
    · exact h.fr.cell h0 hsd

/-- The four places to be written. -/
theorem ELoop.dst {db d0 dl sb so sc eb : Nat} {t : TypeId} {src : List UInt8} {cs : Array Value} {w : World} {d1 s2 : Value} {wr : World} {j : Nat} {cs1 : Array Value} (h : ELoop db d0 dl sb so sc eb t src cs w d1 s2 wr j cs1) {p : Nat} (hp : p + 4 ≤ cs1.size) :
    (∀ i, wr.frozen? ⟨db, i, none⟩ = false) ∧ db < wr.heap.size ∧ (∃ v, wr.cell? ⟨db, p, none⟩ = some v) ∧ (∃ v, wr.cell? ⟨db, p + 1, none⟩ = some v) ∧ (∃ v, wr.cell? ⟨db, p + 2, none⟩ = some v) ∧ ∃ v, wr.cell? ⟨db, p + 3, none⟩ = some v := by
  have k : ∀ i, i < cs1.size → ∃ v, wr.cell? ⟨db, i, none⟩ = some v := fun i hi => ⟨cs1[i], by rw [cell_of_row _ _ _ _ _ _ h.blk]; simp [hi]⟩
  exact ⟨fun i => frozen_of_row _ _ _ _ _ h.blk, (Array.getElem?_eq_some_iff.1 h.blk).1, k _ (by omega), k _ (by omega), k _ (by omega), k _ (by omega)⟩

theorem ELoop.sig {db d0 dl sb so sc eb : Nat} {t : TypeId} {src : List UInt8} {cs : Array Value} {w : World} {d1 s2 : Value} {wr : World} {j : Nat} {cs1 : Array Value} (h : ELoop db d0 dl sb so sc eb t src cs w d1 s2 wr j cs1) (he : Enc eb w) (hne : eb ≠ db) {i : Nat} (hi : i < 64) :
    wr.cell? ⟨eb, i, none⟩ = some (.int .u8 (sig i).toNat) := h.fr.cell (he.sg i hi) hne

theorem eloop_mk {db d0 dl sb so sc eb : Nat} {t : TypeId} {src : List UInt8} {cs : Array Value} {w : World} {A1 A2 : Option Addr} {L1 L2 X2 : Nat} {wr : World} {j : Nat} {cs1 : Array Value} (h0 : 3 * j ≤ src.length) (h1 : L1 = dl - 4 * j) (h2 : L2 = src.length - 3 * j) (h3 : X2 = sc - 3 * j)
    (h4 : 0 < L1 → A1 = some ⟨db, d0 + 4 * j, none⟩) (h5 : 0 < L2 → A2 = some ⟨sb, so + 3 * j, none⟩) (h6 : wr.heap[db]? = some (.cells cs1 t (0, 0))) (h7 : Spliced cs cs1 d0 (b64 (src.take (3 * j)))) (h8 : Fr (· = db) w wr) :
    ELoop db d0 dl sb so sc eb t src cs w (.slice A1 L1 L1) (.slice A2 L2 X2) wr j cs1 :=
  ⟨h0, ⟨A1, by rw [h1], fun h => h4 (by omega)⟩, ⟨A2, by rw [h2, h3], fun h => h5 (by omega)⟩, h6, h7, h8⟩

/-- Four signs written. -/
theorem four {db d0 : Nat} {t : TypeId} {src : List UInt8} {cs cs1 : Array Value} {w wr : World} {m m' p : Nat} (hb : wr.heap[db]? = some (.cells cs1 t (0, 0))) (hs : Spliced cs cs1 d0 (b64 (src.take m))) (hf : Fr (· = db) w wr)
    (x0 x1 x2 x3 : UInt8) (hp : p = d0 + (b64 (src.take m)).length) (he : b64 (src.take m') = b64 (src.take m) ++ [x0, x1, x2, x3]) (hsz : p + 4 ≤ cs1.size) :
    ∃ cs2, ((((wr.setCell ⟨db, p, none⟩ (.int .u8 x0.toNat)).setCell ⟨db, p + 1, none⟩ (.int .u8 x1.toNat)).setCell ⟨db, p + 2, none⟩ (.int .u8 x2.toNat)).setCell ⟨db, p + 3, none⟩ (.int .u8 x3.toNat)).heap[db]? = some (.cells cs2 t (0, 0)) ∧
      Spliced cs cs2 d0 (b64 (src.take m')) ∧ Fr (· = db) w ((((wr.setCell ⟨db, p, none⟩ (.int .u8 x0.toNat)).setCell ⟨db, p + 1, none⟩ (.int .u8 x1.toNat)).setCell ⟨db, p + 2, none⟩ (.int .u8 x2.toNat)).setCell ⟨db, p + 3, none⟩ (.int .u8 x3.toNat)) := by
  have hsz2 := hs.1
  refine ⟨_, Lib.heap_setCell_same (Lib.heap_setCell_same (Lib.heap_setCell_same (Lib.heap_setCell_same hb _) _) _) _, ?_, ?_⟩
  · rw [he]
    have := hs.push4 rfl x0 x1 x2 x3 (by omega)
    rw [← hp] at this
    exact this
  · have k : ∀ (u : World) (i : Nat) (v : Value), Fr (· = db) u (u.setCell ⟨db, i, none⟩ v) := fun u i v => Fr.setCell _ _ rfl
    have h4 := (((k wr p (.int .u8 x0.toNat)).trans (k _ (p + 1) (.int .u8 x1.toNat)) (fun _ _ h => h)).trans (k _ (p + 2) (.int .u8 x2.toNat)) (fun _ _ h => h)).trans (k _ (p + 3) (.int .u8 x3.toNat)) (fun _ _ h => h)
    exact hf.trans h4 (fun _ _ h => h)

theorem take_three (src : List UInt8) (j : Nat) (h : 3 * j + 3 ≤ src.length) {V : Nat} (hV : V = (src.getD (3 * j) 0).toNat * 65536 + (src.getD (3 * j + 1) 0).toNat * 256 + (src.getD (3 * j + 2) 0).toNat) :
    b64 (src.take (3 * (j + 1))) = b64 (src.take (3 * j)) ++ [sig (V / 262144 % 64), sig (V / 4096 % 64), sig (V / 64 % 64), sig (V % 64)] := by
  rw [show 3 * (j + 1) = 3 * j + 3 from by omega, List.take_add, b64_append _ _ (by rw [List.length_take]; omega)]
  congr 1
  have e : (src.drop (3 * j)).take 3 = [src.getD (3 * j) 0, src.getD (3 * j + 1) 0, src.getD (3 * j + 2) 0] := by
    rw [List.drop_eq_getElem_cons (by omega), List.drop_eq_getElem_cons (by omega), List.drop_eq_getElem_cons (by omega)]
    simp only [List.take_succ_cons, List.take_zero, Option.getD_some, List.getD, List.getElem?_eq_getElem (show 3 * j < src.length by omega), List.getElem?_eq_getElem (show 3 * j + 1 < src.length by omega), List.getElem?_eq_getElem (show 3 * j + 2 < src.length by omega)]
  rw [e, hV]
  rfl

theorem take_two (src : List UInt8) (j : Nat) (h : src.length = 3 * j + 2) {V : Nat} (hV : V = (src.getD (3 * j) 0).toNat * 65536 + (src.getD (3 * j + 1) 0).toNat * 256) :
    b64 (src.take (3 * j + 2)) = b64 (src.take (3 * j)) ++ [sig (V / 262144 % 64), sig (V / 4096 % 64), sig (V / 64 % 64), 61] := by
  rw [List.take_add, b64_append _ _ (by rw [List.length_take]; omega)]
  congr 1
  have e : (src.drop (3 * j)).take 2 = [src.getD (3 * j) 0, src.getD (3 * j + 1) 0] := by
    rw [List.drop_eq_getElem_cons (by omega), List.drop_eq_getElem_cons (by omega)]
    simp only [List.take_succ_cons, List.take_zero, Option.getD_some, List.getD, List.getElem?_eq_getElem (show 3 * j < src.length by omega), List.getElem?_eq_getElem (show 3 * j + 1 < src.length by omega)]
  rw [e, hV]
  simp [b64, num3]

theorem take_one (src : List UInt8) (j : Nat) (h : src.length = 3 * j + 1) {V : Nat} (hV : V = (src.getD (3 * j) 0).toNat * 65536) :
    b64 (src.take (3 * j + 1)) = b64 (src.take (3 * j)) ++ [sig (V / 262144 % 64), sig (V / 4096 % 64), 61, 61] := by
  rw [List.take_add, b64_append _ _ (by rw [List.length_take]; omega)]
  congr 1
  have e : (src.drop (3 * j)).take 1 = [src.getD (3 * j) 0] := by
    rw [List.drop_eq_getElem_cons (by omega)]
    simp only [List.take_succ_cons, List.take_zero, Option.getD_some, List.getD, List.getElem?_eq_getElem (show 3 * j < src.length by omega)]
  rw [e, hV]
  simp [b64, num3]

theorem take_len (src : List UInt8) (j : Nat) (h : 3 * j ≤ src.length) : (b64 (src.take (3 * j))).length = 4 * j := by
  rw [b64_length, List.length_take]; omega

theorem dig_and (V q : Nat) (hV : V < 16777216) (_hq : 0 < q) : bits BinOp.and IntKind.u64 ((V : Int) / (q : Int)) 63 = ((V / q % 64 : Nat) : Int) := by
  have h : V / q < 4294967296 := Nat.lt_of_le_of_lt (Nat.div_le_self _ _) (by omega)
  have := u64_and63 (V / q) h
  rw [← this]
  simp
set_option maxHeartbeats 4000000 in
set_option maxRecDepth 100000 in
/-- Encode. -/
theorem encode_any (db d0 dl sb so sc eb : Nat) (t : TypeId) (src : List UInt8) (cs : Array Value) (w : World) (hw : w.heap[db]? = some (.cells cs t (0, 0))) (he : Enc eb w) (hne : eb ≠ db)
    (hs : At w ⟨sb, so, none⟩ src) (hap : sb ≠ db ∨ so + src.length ≤ d0) (h1 : 1 ≤ src.length) (hsc : src.length ≤ sc) (hsc2 : sc ≤ 9223372036854775807) (hdl : (b64 src).length ≤ dl) (hdl2 : dl ≤ 100000) (hfit : d0 + dl ≤ cs.size) (hL : src.length ≤ 768) :
    Calls Tryd.prog 101 #[.pointer (some ⟨eb, 0, none⟩), .slice (some ⟨db, d0, none⟩) dl dl, .slice (some ⟨sb, so, none⟩) src.length sc] w fun e w' => e = .returned (.tuple #[]) ∧
      ∃ cs', w'.heap[db]? = some (.cells cs' t (0, 0)) ∧ Spliced cs cs' d0 (b64 src) ∧ Fr (· = db) w w' := by
  have hrange := he.range
  have hbl := b64_length src
  have hL0 : ((src.length : Int) == 0) = false := by simp; intro h; simp [h] at h1
  have Hw := Lib.hid hw
  have Hs := Lib.hid hs
  have He := Lib.hid he
  clear hw hs he
  go_enter Tryd.func101, Tryd.ntmps101
  go_wp2_with ((with_reducible refine wpList_load_mid rfl 100 _ rfl eb 0 rfl _ _ hrange Tryd.underlying100 rfl info100 ?_); (try simp only [Act.put, List.setIfInBounds_toArray, List.set_cons_zero, List.set_cons_succ]))
  clear hrange
  go_loopw [1, 2, 6] (fun d1 s2 _ wr => ∃ j cs1, ELoop db d0 dl sb so sc eb t src cs w d1 s2 wr j cs1) (fun _ s2 _ _ => match s2 with | .slice _ l _ => l | _ => 0)
  case atStart => exact ⟨0, cs, by omega, ⟨_, rfl, fun _ => rfl⟩, ⟨_, rfl, fun _ => rfl⟩, Hw.out, Spliced.nil _ _, Fr.refl _ _⟩
  case round =>
    obtain ⟨j, cs1, hl⟩ := hrel
    have hl' := hl
    obtain ⟨hj, ⟨da, rfl, hda⟩, ⟨sa, rfl, hsa⟩, -, -, -⟩ := hl'
    by_cases hfull : 3 * j + 3 ≤ src.length
    · have hd4 : 4 * j + 4 ≤ dl := by omega
      obtain rfl := hda (by omega)
      obtain rfl := hsa (by omega)
      have hx0 := hl.src Hw.out Hs.out hap (i := 3 * j) (by omega)
      have hx1 := hl.src Hw.out Hs.out hap (i := 3 * j + 1) (by omega)
      have hx2 := hl.src Hw.out Hs.out hap (i := 3 * j + 2) (by omega)
      obtain ⟨q, hq⟩ : ∃ q, q = so + 3 * j := ⟨_, rfl⟩
      obtain ⟨p, hp⟩ : ∃ p, p = d0 + 4 * j := ⟨_, rfl⟩
      obtain ⟨dn, hdn⟩ : ∃ n, n = dl - 4 * j := ⟨_, rfl⟩
      obtain ⟨sn, hsn⟩ : ∃ n, n = src.length - 3 * j := ⟨_, rfl⟩
      obtain ⟨cn, hcn⟩ : ∃ n, n = sc - 3 * j := ⟨_, rfl⟩
      rw [← hq, ← hp, ← hdn, ← hsn, ← hcn]
      have hsn3 : 3 ≤ sn := by omega
      have hcn3 : sn ≤ cn := by omega
      have hcnb : cn ≤ 9223372036854775807 := by omega
      have hdn4 : 4 ≤ dn := by omega
      have hdnb : dn ≤ 100000 := by omega
      rw [← Nat.add_assoc, ← hq] at hx1 hx2
      rw [← hq] at hx0
      have b0 := (src.getD (3 * j) 0).toNat_lt
      have b1 := (src.getD (3 * j + 1) 0).toNat_lt
      have b2 := (src.getD (3 * j + 2) 0).toNat_lt
      obtain ⟨x0, e0⟩ : ∃ x, x = (src.getD (3 * j) 0).toNat := ⟨_, rfl⟩
      obtain ⟨x1, e1⟩ : ∃ x, x = (src.getD (3 * j + 1) 0).toNat := ⟨_, rfl⟩
      obtain ⟨x2, e2⟩ : ∃ x, x = (src.getD (3 * j + 2) 0).toNat := ⟨_, rfl⟩
      rw [← e0] at hx0 b0
      rw [← e1] at hx1 b1
      rw [← e2] at hx2 b2
      have hsz : p + 4 ≤ cs1.size := by have := hl.spl.1; omega
      have He0 := Lib.hid e0
      have He1 := Lib.hid e1
      have He2 := Lib.hid e2
      have Hl := Lib.hid hl
      have Hq := Lib.hid hq
      have Hp := Lib.hid hp
      have Hdn := Lib.hid hdn
      have Hsn := Lib.hid hsn
      have Hcn := Lib.hid hcn
      clear e0 e1 e2 hl hq hp hdn hsn hcn hda hsa hfull hd4 hj
      go_wp2_with fail
      have hV : ∃ V, V = x0 * 65536 + x1 * 256 + x2 ∧ V < 16777216 ∧ bits BinOp.or IntKind.u64 (bits BinOp.or IntKind.u64 ((x0 : Int) * 65536) ((x1 : Int) * 256)) (x2 : Int) = (V : Int) := by
        refine ⟨_, rfl, by omega, ?_⟩
        rw [show (x0 : Int) * 65536 = ((x0 * 65536 : Nat) : Int) from by simp, show (x1 : Int) * 256 = ((x1 * 256 : Nat) : Int) from by simp]
        have := u64_or 16 x0 (x1 * 256) (by omega) (by omega) (by omega)
        rw [show x0 * 2 ^ 16 = x0 * 65536 from rfl] at this
        rw [this]
        have := u64_or 8 (x0 * 256 + x1) x2 (by omega) (by omega) (by omega)
        rw [show (x0 * 256 + x1) * 2 ^ 8 = x0 * 65536 + x1 * 256 from by omega] at this
        rw [this]
      obtain ⟨V, hV, hVb, hVe⟩ := hV
      have HV := Lib.hid hV
      clear hV
      obtain ⟨f0, k0, ⟨y0, z0⟩, ⟨y1, z1⟩, ⟨y2, z2⟩, ⟨y3, z3⟩⟩ := Hl.out.dst hsz
      have hs0 := Hl.out.sig He.out hne (i := V / 262144 % 64) (Nat.mod_lt _ (by decide))
      have hs1 := Hl.out.sig He.out hne (i := V / 4096 % 64) (Nat.mod_lt _ (by decide))
      have hs2 := Hl.out.sig He.out hne (i := V / 64 % 64) (Nat.mod_lt _ (by decide))
      have hs3 := Hl.out.sig He.out hne (i := V % 64) (Nat.mod_lt _ (by decide))
      obtain ⟨g0, G0⟩ : ∃ g, g = V / 262144 % 64 := ⟨_, rfl⟩
      obtain ⟨g1, G1⟩ : ∃ g, g = V / 4096 % 64 := ⟨_, rfl⟩
      obtain ⟨g2, G2⟩ : ∃ g, g = V / 64 % 64 := ⟨_, rfl⟩
      obtain ⟨g3, G3⟩ : ∃ g, g = V % 64 := ⟨_, rfl⟩
      have hb0 : bits BinOp.and IntKind.u64 ((V : Int) / 262144) 63 = (g0 : Int) := by rw [G0]; exact dig_and V 262144 hVb (by decide)
      have hb1 : bits BinOp.and IntKind.u64 ((V : Int) / 4096) 63 = (g1 : Int) := by rw [G1]; exact dig_and V 4096 hVb (by decide)
      have hb2 : bits BinOp.and IntKind.u64 ((V : Int) / 64) 63 = (g2 : Int) := by rw [G2]; exact dig_and V 64 hVb (by decide)
      have hb3 : bits BinOp.and IntKind.u64 (V : Int) 63 = (g3 : Int) := by rw [G3]; exact u64_and63 V (by omega)
      have l0 : g0 < 64 := by rw [G0]; exact Nat.mod_lt _ (by decide)
      have l1 : g1 < 64 := by rw [G1]; exact Nat.mod_lt _ (by decide)
      have l2 : g2 < 64 := by rw [G2]; exact Nat.mod_lt _ (by decide)
      have l3 : g3 < 64 := by rw [G3]; exact Nat.mod_lt _ (by decide)
      rw [← G0] at hs0; rw [← G1] at hs1; rw [← G2] at hs2; rw [← G3] at hs3
      have HG0 := Lib.hid G0; have HG1 := Lib.hid G1; have HG2 := Lib.hid G2; have HG3 := Lib.hid G3
      clear G0 G1 G2 G3
      go_quiet (fail)
      go_wp2_with fail
      have hlen := take_len src j Hl.out.le
      have hle := Hl.out.le
      have ht3 := take_three src j (by have := Hsn.out; omega) (V := V) (by rw [HV.out, He0.out, He1.out, He2.out])
      rw [← HG0.out, ← HG1.out, ← HG2.out, ← HG3.out] at ht3
      obtain ⟨cs2, n1, n2, n3⟩ := four (wr := wr.drewN nq) (p := p) (m' := 3 * (j + 1)) Hl.out.blk Hl.out.spl (Hl.out.fr.trans (Fr.drewN (S := (· = db)) nq) (fun _ _ h => h)) (sig g0) (sig g1) (sig g2) (sig g3) (by rw [hlen]; exact Hp.out) ht3 hsz
      refine ⟨⟨j + 1, cs2, eloop_mk (by have := Hsn.out; omega) (by have := Hdn.out; omega) (by have := Hsn.out; omega) (by have := Hcn.out; omega) ?_ ?_ n1 n2 n3⟩, ?_⟩
      · intro h; rw [if_neg (by omega)]; have := Hp.out; congr 2; omega
      · intro h; rw [if_neg (by omega)]; have := Hq.out; congr 2; omega
      · show sn - 3 < sn; omega
    · rcases (show src.length - 3 * j = 0 ∨ src.length - 3 * j = 1 ∨ src.length - 3 * j = 2 from by omega) with hr | hr | hr
      · rw [hr]
        have hall : src.take (3 * j) = src := List.take_of_length_le (by omega)
        have Hall := Lib.hid hall
        have Hl := Lib.hid hl
        clear hall hl hr hda hsa hj hfull
        go_wp2_with fail
        go_returns
        refine ⟨rfl, cs1, Hl.out.blk, ?_, Hl.out.fr⟩
        have := Hl.out.spl
        rw [Hall.out] at this
        exact this
      · have hd4 : 4 * j + 4 ≤ dl := by omega
        obtain rfl := hda (by omega)
        obtain rfl := hsa (by omega)
        have hx0 := hl.src Hw.out Hs.out hap (i := 3 * j) (by omega)
        obtain ⟨q, hq⟩ : ∃ q, q = so + 3 * j := ⟨_, rfl⟩
        obtain ⟨p, hp⟩ : ∃ p, p = d0 + 4 * j := ⟨_, rfl⟩
        obtain ⟨dn, hdn⟩ : ∃ n, n = dl - 4 * j := ⟨_, rfl⟩
        obtain ⟨cn, hcn⟩ : ∃ n, n = sc - 3 * j := ⟨_, rfl⟩
        rw [← hq, ← hp, ← hdn, ← hcn, show src.length - 3 * j = 1 from by omega]
        have hcn3 : 1 ≤ cn := by omega
        have hcnb : cn ≤ 9223372036854775807 := by omega
        have hdn4 : 4 ≤ dn := by omega
        have hdnb : dn ≤ 100000 := by omega
        rw [← hq] at hx0
        have b0 := (src.getD (3 * j) 0).toNat_lt
        obtain ⟨x0, e0⟩ : ∃ x, x = (src.getD (3 * j) 0).toNat := ⟨_, rfl⟩
        rw [← e0] at hx0 b0
        have hsz : p + 4 ≤ cs1.size := by have := hl.spl.1; omega
        have He0 := Lib.hid e0
        have Hl := Lib.hid hl
        have Hp := Lib.hid hp
        have Hr := Lib.hid hr
        clear e0 hl hq hp hdn hcn hda hsa hfull hd4 hr
        have hV : ∃ V, V = x0 * 65536 ∧ V < 16777216 ∧ (x0 : Int) * 65536 = (V : Int) := ⟨_, rfl, by omega, by simp⟩
        obtain ⟨V, hV, hVb, hVe⟩ := hV
        have HV := Lib.hid hV
        clear hV
        obtain ⟨f0, k0, ⟨y0, z0⟩, ⟨y1, z1⟩, ⟨y2, z2⟩, ⟨y3, z3⟩⟩ := Hl.out.dst hsz
        have hpad : wr.cell? ⟨eb, 320, none⟩ = some (.int .i32 61) := Hl.out.fr.cell He.out.pad hne
        have hs0 := Hl.out.sig He.out hne (i := V / 262144 % 64) (Nat.mod_lt _ (by decide))
        have hs1 := Hl.out.sig He.out hne (i := V / 4096 % 64) (Nat.mod_lt _ (by decide))
        obtain ⟨g0, G0⟩ : ∃ g, g = V / 262144 % 64 := ⟨_, rfl⟩
        have hb0 : bits BinOp.and IntKind.u64 ((V : Int) / 262144) 63 = (g0 : Int) := by rw [G0]; exact dig_and V 262144 hVb (by decide)
        have l0 : g0 < 64 := by rw [G0]; exact Nat.mod_lt _ (by decide)
        rw [← G0] at hs0
        have HG0 := Lib.hid G0
        clear G0
        obtain ⟨g1, G1⟩ : ∃ g, g = V / 4096 % 64 := ⟨_, rfl⟩
        have hb1 : bits BinOp.and IntKind.u64 ((V : Int) / 4096) 63 = (g1 : Int) := by rw [G1]; exact dig_and V 4096 hVb (by decide)
        have l1 : g1 < 64 := by rw [G1]; exact Nat.mod_lt _ (by decide)
        rw [← G1] at hs1
        have HG1 := Lib.hid G1
        clear G1
        go_wp2_with fail
        go_returns
        refine ⟨rfl, ?_⟩
        have hlen := take_len src j Hl.out.le
        have ht3 := take_one src j (V := V) (by have := Hr.out; omega) (by rw [HV.out, He0.out])
        rw [← HG0.out, ← HG1.out] at ht3
        have hall : src.take (3 * j + 1) = src := List.take_of_length_le (by have := Hr.out; omega)
        obtain ⟨cs2, n1, n2, n3⟩ := four (wr := wr) (p := p) (m' := 3 * j + 1) Hl.out.blk Hl.out.spl Hl.out.fr (sig g0) (sig g1) 61 61 (by rw [hlen]; exact Hp.out) ht3 hsz
        rw [hall] at n2
        exact ⟨cs2, n1, n2, n3⟩
      · have hd4 : 4 * j + 4 ≤ dl := by omega
        obtain rfl := hda (by omega)
        obtain rfl := hsa (by omega)
        have hx0 := hl.src Hw.out Hs.out hap (i := 3 * j) (by omega)
        have hx1 := hl.src Hw.out Hs.out hap (i := 3 * j + 1) (by omega)
        obtain ⟨q, hq⟩ : ∃ q, q = so + 3 * j := ⟨_, rfl⟩
        obtain ⟨p, hp⟩ : ∃ p, p = d0 + 4 * j := ⟨_, rfl⟩
        obtain ⟨dn, hdn⟩ : ∃ n, n = dl - 4 * j := ⟨_, rfl⟩
        obtain ⟨cn, hcn⟩ : ∃ n, n = sc - 3 * j := ⟨_, rfl⟩
        rw [← hq, ← hp, ← hdn, ← hcn, show src.length - 3 * j = 2 from by omega]
        have hcn3 : 2 ≤ cn := by omega
        have hcnb : cn ≤ 9223372036854775807 := by omega
        have hdn4 : 4 ≤ dn := by omega
        have hdnb : dn ≤ 100000 := by omega
        rw [← Nat.add_assoc, ← hq] at hx1
        rw [← hq] at hx0
        have b0 := (src.getD (3 * j) 0).toNat_lt
        have b1 := (src.getD (3 * j + 1) 0).toNat_lt
        obtain ⟨x0, e0⟩ : ∃ x, x = (src.getD (3 * j) 0).toNat := ⟨_, rfl⟩
        rw [← e0] at hx0 b0
        obtain ⟨x1, e1⟩ : ∃ x, x = (src.getD (3 * j + 1) 0).toNat := ⟨_, rfl⟩
        rw [← e1] at hx1 b1
        have hsz : p + 4 ≤ cs1.size := by have := hl.spl.1; omega
        have He0 := Lib.hid e0
        have He1 := Lib.hid e1
        have Hl := Lib.hid hl
        have Hp := Lib.hid hp
        have Hr := Lib.hid hr
        clear e0 e1 hl hq hp hdn hcn hda hsa hfull hd4 hr
        have hV : ∃ V, V = x0 * 65536 + x1 * 256 ∧ V < 16777216 ∧ bits BinOp.or IntKind.u64 ((x0 : Int) * 65536) ((x1 : Int) * 256) = (V : Int) := by
          refine ⟨_, rfl, by omega, ?_⟩
          rw [show (x0 : Int) * 65536 = ((x0 * 65536 : Nat) : Int) from by simp, show (x1 : Int) * 256 = ((x1 * 256 : Nat) : Int) from by simp]
          have := u64_or 16 x0 (x1 * 256) (by omega) (by omega) (by omega)
          rw [show x0 * 2 ^ 16 = x0 * 65536 from rfl] at this
          rw [this]
        obtain ⟨V, hV, hVb, hVe⟩ := hV
        have HV := Lib.hid hV
        clear hV
        obtain ⟨f0, k0, ⟨y0, z0⟩, ⟨y1, z1⟩, ⟨y2, z2⟩, ⟨y3, z3⟩⟩ := Hl.out.dst hsz
        have hpad : wr.cell? ⟨eb, 320, none⟩ = some (.int .i32 61) := Hl.out.fr.cell He.out.pad hne
        have hs0 := Hl.out.sig He.out hne (i := V / 262144 % 64) (Nat.mod_lt _ (by decide))
        have hs1 := Hl.out.sig He.out hne (i := V / 4096 % 64) (Nat.mod_lt _ (by decide))
        have hs2 := Hl.out.sig He.out hne (i := V / 64 % 64) (Nat.mod_lt _ (by decide))
        obtain ⟨g0, G0⟩ : ∃ g, g = V / 262144 % 64 := ⟨_, rfl⟩
        have hb0 : bits BinOp.and IntKind.u64 ((V : Int) / 262144) 63 = (g0 : Int) := by rw [G0]; exact dig_and V 262144 hVb (by decide)
        have l0 : g0 < 64 := by rw [G0]; exact Nat.mod_lt _ (by decide)
        rw [← G0] at hs0
        have HG0 := Lib.hid G0
        clear G0
        obtain ⟨g1, G1⟩ : ∃ g, g = V / 4096 % 64 := ⟨_, rfl⟩
        have hb1 : bits BinOp.and IntKind.u64 ((V : Int) / 4096) 63 = (g1 : Int) := by rw [G1]; exact dig_and V 4096 hVb (by decide)
        have l1 : g1 < 64 := by rw [G1]; exact Nat.mod_lt _ (by decide)
        rw [← G1] at hs1
        have HG1 := Lib.hid G1
        clear G1
        obtain ⟨g2, G2⟩ : ∃ g, g = V / 64 % 64 := ⟨_, rfl⟩
        have hb2 : bits BinOp.and IntKind.u64 ((V : Int) / 64) 63 = (g2 : Int) := by rw [G2]; exact dig_and V 64 hVb (by decide)
        have l2 : g2 < 64 := by rw [G2]; exact Nat.mod_lt _ (by decide)
        rw [← G2] at hs2
        have HG2 := Lib.hid G2
        clear G2
        go_wp2_with fail
        go_quiet (fail)
        go_wp2_with fail
        go_returns
        refine ⟨rfl, ?_⟩
        have hlen := take_len src j Hl.out.le
        have ht3 := take_two src j (V := V) (by have := Hr.out; omega) (by rw [HV.out, He0.out, He1.out])
        rw [← HG0.out, ← HG1.out, ← HG2.out] at ht3
        have hall : src.take (3 * j + 2) = src := List.take_of_length_le (by have := Hr.out; omega)
        obtain ⟨cs2, n1, n2, n3⟩ := four (wr := wr.drewN nq) (p := p) (m' := 3 * j + 2) Hl.out.blk Hl.out.spl (Hl.out.fr.trans (Fr.drewN (S := (· = db)) nq) (fun _ _ h => h)) (sig g0) (sig g1) (sig g2) 61 (by rw [hlen]; exact Hp.out) ht3 hsz
        rw [hall] at n2
        exact ⟨cs2, n1, n2, n3⟩
end Go.Proofs.YtempflfhlbojgaaDoor
