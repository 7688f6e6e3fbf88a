/-
  The walks of the reference: Plain64, padded64, ArmorText: what they return, for slices of at most 100000 bytes.
-/
import Derived.Test.YtempflfhlbojgaaDoorRows
import Derived.Test.YtempflfhlbojgaaDoorBits
import Derived.WalkKit
import Derived.WalkSpells
import Derived.WalkLawsBesides
import Derived.Lib.Hide
import Derived.Lib.IndexBytes
namespace Go.Proofs.YtempflfhlbojgaaDoor
open Go.RowKit

/-- Up to three bytes so far read of the triple that begins at i. -/
def vK (ds : List UInt8) (i : Nat) : Nat → Nat
  | 0 => 0
  | k + 1 => vK ds i k * 256 + (if i + k < ds.length then (ds.getD (i + k) 0).toNat else 0)
theorem vK_lt (ds : List UInt8) (i : Nat) : ∀ k, vK ds i k < 256 ^ k
  | 0 => by simp [vK]
  | k + 1 => by
    have := vK_lt ds i k
    have h2 := (ds.getD (i + k) 0).toNat_lt
    rw [vK, Nat.pow_succ]
    split <;> omega
/-- How many bytes were there. -/
def nK (n i k : Nat) : Nat := min k (n - i)

/-- The k-th sign of the chunk that begins at i. -/
def dK (v k : Nat) : Nat := v / 2 ^ (18 - 6 * k) % 64
theorem dK_lt (v k : Nat) : dK v k < 64 := Nat.mod_lt _ (by decide)

/-- The signs of the chunk at the head. -/
def chunk (ds : List UInt8) (i : Nat) : List UInt8 := (List.range (nK ds.length i 3 + 1)).map fun k => sig (dK (vK ds i 3) k)

theorem chunk_take (ds : List UInt8) (i k : Nat) (h : k < nK ds.length i 3 + 1) : (chunk ds i).take (k + 1) = (chunk ds i).take k ++ [sig (dK (vK ds i 3) k)] := by
  have hl : k < (chunk ds i).length := by simp [chunk]; omega
  rw [List.take_succ_eq_append_getElem hl]
  simp [chunk]

theorem p64_chunk (ds : List UInt8) (j : Nat) (hlt : 3 * j < ds.length) : p64 (ds.take (3 * (j + 1))) = p64 (ds.take (3 * j)) ++ chunk ds (3 * j) := by
  have e : ds.take (3 * (j + 1)) = ds.take (3 * j) ++ (ds.drop (3 * j)).take 3 := by
    rw [show 3 * (j + 1) = 3 * j + 3 from by omega, List.take_add]
  rw [e, p64_append _ _ (by rw [List.length_take]; omega)]
  congr 1
  have hg : ∀ k, ds.getD (3 * j + k) 0 = (ds.drop (3 * j)).getD k 0 := fun k => by simp [List.getD]
  have hl : ds.length = 3 * j + (ds.drop (3 * j)).length := by simp; omega
  unfold chunk
  simp only [vK, hg]
  rw [hl]
  generalize ds.drop (3 * j) = r at *
  match r, hl with
  | [], hl => simp at hl; omega
  | [a], _ =>
    have h1 : a.toNat * 256 * 256 = a.toNat * 65536 := by omega
    simp [nK, dK, p64, List.range, List.range.loop, num3, h1]
  | [a, b], _ =>
    have h1 : (a.toNat * 256 + b.toNat) * 256 = a.toNat * 65536 + b.toNat * 256 := by omega
    simp [nK, dK, p64, List.range, List.range.loop, num3, h1]
  | a :: b :: c :: r, _ =>
    have h1 : (a.toNat * 256 + b.toNat) * 256 = a.toNat * 65536 + b.toNat * 256 := by omega
    simp [nK, dK, p64, List.range, List.range.loop, num3, h1]

set_option maxHeartbeats 1000000 in
/-- spec.Plain64: base 64 without signs of equality. -/
theorem plain_some (b o c : Nat) (ds : List UInt8) (w : World) (hlen : ds.length ≤ 100000) (hc : ∀ i, i < ds.length → w.cell? ⟨b, o + i, none⟩ = some (.int .u8 (ds.getD i 0).toNat)) :
    Calls Tryd.prog 25 #[.slice (some ⟨b, o, none⟩) ds.length c] w fun e w' => (∃ s : ByteArray, e = .returned (.string s) ∧ s.data.toList = p64 ds) ∧ w' = w := by
  go_enter Tryd.func25, Tryd.ntmps25
  go_wp2
  go_loop [3, 4, 5, 6, 7, 8, 9, 16, 40, 41] (fun s3 i4 _ _ _ _ _ _ _ _ => ∃ (s : ByteArray) (j : Nat), s3 = .string s ∧ i4 = .int .i64 (3 * j : Nat) ∧ 3 * j ≤ ds.length + 2 ∧ s.data.toList = p64 (ds.take (3 * j))) (fun _ i4 _ _ _ _ _ _ _ _ => ds.length + 3 - (intOf i4).toNat)
  case atStart => exact ⟨_, 0, rfl, rfl, by omega, by simp [p64]⟩
  case round =>
    obtain ⟨s, j, rfl, rfl, hj, hs⟩ := hrel
    have Hs := Lib.hid hs
    clear hs
    by_cases hlt : 3 * j < ds.length
    · have Hch := Lib.hid (p64_chunk ds j hlt)
      go_wp2
      go_loop [5, 6, 7, 16] (fun v5 n6 _ k16 => ∃ k : Nat, k ≤ 3 ∧ v5 = .int .u64 (vK ds (3 * j) k : Nat) ∧ n6 = .int .i64 (nK ds.length (3 * j) k : Nat) ∧ k16 = .int .i64 k) (fun _ _ _ k16 => 3 - (intOf k16).toNat)
      case atStart => exact ⟨0, by omega, by simp [vK], by simp [nK], rfl⟩
      case round =>
        obtain ⟨k, hk, rfl, rfl, rfl⟩ := hrel
        have hv := vK_lt ds (3 * j) k
        by_cases hk3 : k < 3
        · have hv2 : vK ds (3 * j) k < 65536 := Nat.lt_of_lt_of_le hv (by
            have := Nat.pow_le_pow_right (n := 256) (by omega) (show k ≤ 2 from by omega)
            simpa using this)
          clear hv
          have hnk : nK ds.length (3 * j) k ≤ 3 := by unfold nK; omega
          by_cases hin : 3 * j + k < ds.length
          · have hcell := hc _ hin
            have Hv : Hid (vK ds (3 * j) (k + 1) = vK ds (3 * j) k * 256 + (ds.getD (3 * j + k) 0).toNat) := by rw [Hid, vK, if_pos hin]
            have Hn : Hid (nK ds.length (3 * j) (k + 1) = nK ds.length (3 * j) k + 1) := by unfold Hid nK; omega
            go_wp2
            go_round
            case rel =>
              refine ⟨k + 1, by omega, ?_, ?_, by go_num⟩
              · rw [Hv.out]
                have h256 := (ds.getD (3 * j + k) 0).toNat_lt
                have := u64_or8 (vK ds (3 * j) k) (ds.getD (3 * j + k) 0).toNat hv2 (by omega)
                rw [wrap_u64_of ((vK ds (3 * j) k : Int) * 256) (by omega) (by omega)] at this
                simp only [List.getD, List.getElem?_eq_getElem hin, Option.getD_some] at this ⊢
                rw [this]
              · rw [Hn.out]; go_num
            case measure => simp [intOf]; omega
          · have Hv : Hid (vK ds (3 * j) (k + 1) = vK ds (3 * j) k * 256) := by rw [Hid, vK, if_neg hin, Nat.add_zero]
            have Hn : Hid (nK ds.length (3 * j) (k + 1) = nK ds.length (3 * j) k) := by unfold Hid nK; omega
            go_wp2
            go_round
            case rel =>
              refine ⟨k + 1, by omega, ?_, by rw [Hn.out], by go_num⟩
              rw [Hv.out]; simp
            case measure => simp [intOf]; omega
        · obtain rfl : k = 3 := by omega
          have hn1 : 1 ≤ nK ds.length (3 * j) 3 := by unfold nK; omega
          have hn3 : nK ds.length (3 * j) 3 ≤ 3 := by unfold nK; omega
          obtain ⟨n, hn⟩ : ∃ n, n = nK ds.length (3 * j) 3 := ⟨_, rfl⟩
          rw [← hn] at hn1 hn3
          obtain ⟨V, hV⟩ : ∃ V, V = vK ds (3 * j) 3 := ⟨_, rfl⟩
          have hV2 : V < 16777216 := by rw [hV]; exact Nat.lt_of_lt_of_le hv (by decide)
          have ht : ∀ k, k < n + 1 → (chunk ds (3 * j)).take (k + 1) = (chunk ds (3 * j)).take k ++ [sig (dK V k)] := by rw [hn, hV]; exact chunk_take ds (3 * j)
          have hfull : (chunk ds (3 * j)).take (n + 1) = chunk ds (3 * j) := List.take_of_length_le (by simp [chunk, hn])
          rw [← hn, ← hV]
          have Ht := Lib.hid ht
          have Hf := Lib.hid hfull
          clear hv hn hV ht hfull hk hk3
          go_wp2
          go_loop [3, 8, 9, 41] (fun s3 _ _ k41 => ∃ (t : ByteArray) (k : Nat), k ≤ n + 1 ∧ s3 = .string t ∧ k41 = .int .i64 k ∧ t.data.toList = s.data.toList ++ (chunk ds (3 * j)).take k) (fun _ _ _ k41 => 4 - (intOf k41).toNat)
          case atStart => exact ⟨_, 0, by omega, rfl, rfl, by simp⟩
          case round =>
            obtain ⟨t, k, hk, rfl, rfl, ht⟩ := hrel
            have Ht2 := Lib.hid ht
            clear ht
            by_cases hkn : k < n + 1
            · have hd := dK_lt V k
              have hts : t.size ≤ 200000 := by
                have e1 : t.size = t.data.toList.length := by simp
                have e2 := p64_length_le (ds.take (3 * j))
                have e3 : ((chunk ds (3 * j)).take k).length ≤ k := List.length_take_le _ _
                rw [e1, Ht2.out, List.length_append, Hs.out]
                rw [List.length_take] at e2
                omega
              obtain ⟨d, hdd⟩ : ∃ d, d = dK V k := ⟨_, rfl⟩
              have Htk : Hid ((chunk ds (3 * j)).take (k + 1) = (chunk ds (3 * j)).take k ++ [sig d]) := by rw [Hid, hdd]; exact Ht.out k hkn
              rw [← hdd] at hd
              have Hs1 := Lib.hid (sig_at t ⟨#[65, 66, 67, 68, 69, 70, 71, 72, 73, 74, 75, 76, 77, 78, 79, 80, 81, 82, 83, 84, 85, 86, 87, 88, 89, 90, 97, 98, 99, 100, 101, 102, 103, 104, 105, 106, 107, 108, 109, 110, 111, 112, 113, 114, 115, 116, 117, 118, 119, 120, 121, 122, 48, 49, 50, 51, 52, 53, 54, 55, 56, 57, 43, 47]⟩ d hd rfl)
              have Hdd := Lib.hid hdd
              clear hdd
              rcases (show k = 0 ∨ k = 1 ∨ k = 2 ∨ k = 3 from by omega) with rfl | rfl | rfl | rfl
              · have hb : bits BinOp.and IntKind.u64 ((V : Int) / 262144) 63 = (d : Int) := by rw [Hdd.out, dK]; exact u64_and63 (V / 262144) (by omega)
                go_wp2
                go_round
                case rel => exact ⟨_, 1, by omega, rfl, rfl, by rw [Htk.out, ← List.append_assoc, ← Ht2.out]; exact Hs1.out⟩
                case measure => simp [intOf]
              · have hb : bits BinOp.and IntKind.u64 ((V : Int) / 4096) 63 = (d : Int) := by rw [Hdd.out, dK]; exact u64_and63 (V / 4096) (by omega)
                go_wp2
                go_round
                case rel => exact ⟨_, 2, by omega, rfl, rfl, by rw [Htk.out, ← List.append_assoc, ← Ht2.out]; exact Hs1.out⟩
                case measure => simp [intOf]
              · have hb : bits BinOp.and IntKind.u64 ((V : Int) / 64) 63 = (d : Int) := by rw [Hdd.out, dK]; exact u64_and63 (V / 64) (by omega)
                go_wp2
                go_round
                case rel => exact ⟨_, 3, by omega, rfl, rfl, by rw [Htk.out, ← List.append_assoc, ← Ht2.out]; exact Hs1.out⟩
                case measure => simp [intOf]
              · have hb : bits BinOp.and IntKind.u64 (V : Int) 63 = (d : Int) := by rw [Hdd.out, dK]; simpa using u64_and63 V (by omega)
                go_wp2
                go_round
                case rel => exact ⟨_, 4, by omega, rfl, rfl, by rw [Htk.out, ← List.append_assoc, ← Ht2.out]; exact Hs1.out⟩
                case measure => simp [intOf]
            · obtain rfl : k = n + 1 := by omega
              go_wp2
              go_round
              case rel => exact ⟨t, j + 1, rfl, by go_num, by omega, by rw [Ht2.out, Hf.out, Hch.out, Hs.out]⟩
              case measure => simp [intOf]; omega
    · go_wp2
      go_ret
      exact ⟨⟨s, rfl, by rw [Hs.out, List.take_of_length_le (by omega)]⟩, rfl⟩

/-- A slice at address a holds the bytes ds (none: whatever the address). -/
def Holds (w : World) (a : Option Addr) (ds : List UInt8) : Prop :=
  ds = [] ∨ ∃ b o, a = some ⟨b, o, none⟩ ∧ ∀ i, i < ds.length → w.cell? ⟨b, o + i, none⟩ = some (.int .u8 (ds.getD i 0).toNat)

theorem plain_none (a : Option Addr) (c : Nat) (w : World) :
    Calls Tryd.prog 25 #[.slice a 0 c] w fun e w' => (∃ s : ByteArray, e = .returned (.string s) ∧ s.data.toList = p64 []) ∧ w' = w := by
  go_enter Tryd.func25, Tryd.ntmps25
  go_wp2
  refine wp_loop_rounds 1 ?_
  rw [rounds_succ]
  go_wp2
  go_ret
  exact ⟨⟨_, rfl, rfl⟩, rfl⟩

theorem plain_any (a : Option Addr) (c : Nat) (ds : List UInt8) (w : World) (hlen : ds.length ≤ 100000) (h : Holds w a ds) :
    Calls Tryd.prog 25 #[.slice a ds.length c] w fun e w' => (∃ s : ByteArray, e = .returned (.string s) ∧ s.data.toList = p64 ds) ∧ w' = w := by
  rcases h with rfl | ⟨b, o, rfl, hc⟩
  · exact plain_none a c w
  · exact plain_some b o c ds w hlen hc

set_option maxHeartbeats 400000 in
/-- spec.padded64. -/
theorem padded_any (a : Option Addr) (c : Nat) (ds : List UInt8) (w : World) (hlen : ds.length ≤ 100000) (h : Holds w a ds) :
    Calls Tryd.prog 10 #[.slice a ds.length c] w fun e w' => (∃ s : ByteArray, e = .returned (.string s) ∧ s.data.toList = b64 ds) ∧ w' = w := by
  have hp := p64_length_le ds
  have Hb := Lib.hid (b64_p64 ds)
  go_enter Tryd.func10, Tryd.ntmps10
  go_wp2_with fail
  refine (plain_any a c ds _ hlen h).mono ?_
  rintro e w' ⟨⟨s, rfl, hs⟩, rfl⟩
  have Hs := Lib.hid hs
  clear hs
  obtain ⟨L, hL⟩ : ∃ L, L = (p64 ds).length := ⟨_, rfl⟩
  have hLb : L ≤ 140000 := by omega
  have HL := Lib.hid hL
  clear hL hp
  go_wp2
  go_loop [3] (fun s3 => ∃ (t : ByteArray) (k : Nat), s3 = .string t ∧ k ≤ padOf L ∧ t.data.toList = p64 ds ++ List.replicate k 61) (fun s3 => match s3 with | .string t => L + 4 - t.size | _ => 0)
  case atStart => exact ⟨s, 0, rfl, by omega, by simp [Hs.out]⟩
  case round =>
    obtain ⟨t, k, rfl, hk, ht⟩ := hrel
    have hts : t.size = L + k := by
      have e1 : t.size = t.data.toList.length := by simp
      rw [e1, ht, List.length_append, List.length_replicate, HL.out]
    have hp4 : padOf L ≤ 3 := by unfold padOf; omega
    have Ht := Lib.hid ht
    have Hts := Lib.hid hts
    clear ht
    by_cases hkp : k = padOf L
    · have hm : ((t.size : Int) % 4 != 0) = false := by rw [hkp] at hts; unfold padOf at hts; simp; omega
      have hsz : (t.size : Int) ≤ 200000 := by omega
      clear hts
      go_wp2
      go_ret
      exact ⟨⟨t, rfl, by rw [Ht.out, Hb.out, hkp, HL.out]⟩, rfl⟩
    · have hm : ((t.size : Int) % 4 != 0) = true := by unfold padOf at hk hkp; simp; omega
      have hsz : (t.size : Int) ≤ 200000 := by omega
      clear hts
      go_wp2
      go_round
      case rel => exact ⟨_, k + 1, rfl, by omega, by rw [List.replicate_succ', ← List.append_assoc, ← Ht.out]; simp⟩
      case measure =>
        have h1 := Hts.out
        have h2 : (⟨#[61]⟩ : ByteArray).size = 1 := rfl
        show L + 4 - (t ++ (⟨#[61]⟩ : ByteArray)).size < L + 4 - t.size
        rw [ByteArray.size_append, h2]
        omega

theorem list_of_string (s : ByteArray) (l : List UInt8) (h : s.data.toList = l) : s = ⟨l.toArray⟩ := by
  cases s with | mk d => simp at h; subst h; simp

set_option maxHeartbeats 400000 in
/-- spec.ArmorText. -/
theorem armor_any (a : Option Addr) (c : Nat) (ds : List UInt8) (w : World) (hlen : ds.length ≤ 100000) (h : Holds w a ds) :
    Calls Tryd.prog 6 #[.slice a ds.length c] w fun e w' => (∃ s : ByteArray, e = .returned (.string s) ∧ s.data.toList = armorText ds) ∧ w' = w := by
  have hbl := b64_length ds
  have hfin := linesOf_wrap (b64 ds).length (b64 ds) (by omega)
  have Hfin := Lib.hid hfin
  clear hfin
  go_enter Tryd.func6, Tryd.ntmps6
  go_wp2_with fail
  refine (padded_any a c ds _ hlen h).mono ?_
  rintro e w' ⟨⟨s, rfl, hs⟩, rfl⟩
  have Hs := Lib.hid hs
  clear hs
  obtain ⟨S, hS⟩ : ∃ S, S = b64 ds := ⟨_, rfl⟩
  have hSl : S.length ≤ 140000 := by rw [hS]; omega
  have HS := Lib.hid hS
  rw [← hS] at Hs
  clear hS hbl
  go_wp2
  go_loop [3, 4] (fun o3 s4 => ∃ (o s : ByteArray) (f : Nat) (r : List UInt8), o3 = .string o ∧ s4 = .string s ∧ s.data.toList = r ∧ r.length ≤ S.length ∧ o.size + r.length * 2 ≤ 35 + 2 * S.length ∧ r.length ≤ 64 * (f + 1) ∧ o.data.toList ++ linesOf f r = headLine ++ linesOf S.length S) (fun _ s4 => match s4 with | .string t => t.size | _ => 0)
  case atStart => exact ⟨_, s, S.length, S, rfl, rfl, Hs.out, Nat.le_refl _, (by show 35 + _ ≤ _; omega), by omega, rfl⟩
  case round =>
    obtain ⟨o, s, f, r, rfl, rfl, hs, hrl, hol, hrf, heq⟩ := hrel
    have hss : s.size = r.length := by rw [← hs]; simp
    have Hs2 := Lib.hid hs
    have Heq := Lib.hid heq
    have Hss := Lib.hid hss
    have hsz : (s.size : Int) ≤ 140000 := by omega
    have hoz : (o.size : Int) ≤ 300000 := by omega
    clear hs heq
    by_cases hbig : 64 < r.length
    · have hb2 : (64 : Int) < (s.size : Int) := by omega
      have hb3 : (64 : Int) ≤ (s.size : Int) := by omega
      clear hss
      go_wp2
      obtain ⟨f, rfl⟩ : ∃ g, f = g + 1 := ⟨f - 1, by omega⟩
      have e1 : (s.extract 0 64).data.toList = r.take 64 := by rw [← Hs2.out]; simp
      have e2 : (s.extract 64 s.size).data.toList = r.drop 64 := by
        rw [Lib.extract_to_end, Hs2.out]
      have e3 : (o ++ (s.extract 0 64 ++ (⟨#[10]⟩ : ByteArray))).data.toList = o.data.toList ++ (r.take 64 ++ [10]) := by simp [Hs2.out]
      have e4 : linesOf (f + 1) r = r.take 64 ++ [10] ++ linesOf f (r.drop 64) := by rw [linesOf, if_pos hbig]
      have e5 : (o ++ (s.extract 0 64 ++ (⟨#[10]⟩ : ByteArray))).size = o.size + 65 := by
        rw [Lib.size_eq, e3, Lib.size_eq]
        simp
        omega
      refine ⟨⟨_, _, f, r.drop 64, rfl, rfl, e2, by simp; omega, by rw [e5]; simp; omega, by simp; omega, ?_⟩, ?_⟩
      · rw [e3, ← Heq.out, e4]; simp
      · show (s.extract 64 s.size).size < s.size
        have : (s.extract 64 s.size).size = (s.extract 64 s.size).data.toList.length := by simp
        rw [this, e2, Hss.out]
        simp
        omega
    · have hb2 : (s.size : Int) ≤ 64 := by omega
      clear hss
      have hlast : linesOf f r = if r = [] then [] else r ++ [10] := by
        cases f with
        | zero => rw [linesOf]
        | succ f => rw [linesOf, if_neg hbig]
      have Hlast := Lib.hid hlast
      clear hlast
      have hend : ∀ X : List UInt8, o.data.toList ++ linesOf f r = X → X ++ (footLine ++ [10]) = armorText ds := fun X hX => by
        rw [← hX, Heq.out, armorText, HS.out, Hfin.out]
      have Hend := Lib.hid hend
      clear hend
      by_cases h0 : r = []
      · have hne : s.toList.isEmpty = true := by rw [ByteArray.toList_eq, Hs2.out, h0]; rfl
        go_wp2
        go_ret
        refine ⟨⟨_, rfl, ?_⟩, rfl⟩
        rw [← Hend.out _ rfl, Hlast.out, if_pos h0]
        simp [footLine]
      · have hne : s.toList.isEmpty = false := by
          rw [ByteArray.toList_eq, Hs2.out]; cases r with | nil => exact absurd rfl h0 | cons x r => rfl
        go_wp2
        go_ret
        refine ⟨⟨_, rfl, ?_⟩, rfl⟩
        rw [← Hend.out _ rfl, Hlast.out, if_neg h0, ← Hs2.out]
        simp [footLine]
#print axioms armor_any
end Go.Proofs.YtempflfhlbojgaaDoor
