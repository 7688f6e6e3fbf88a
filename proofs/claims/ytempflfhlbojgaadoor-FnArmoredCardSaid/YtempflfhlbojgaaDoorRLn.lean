/-
  The walk of armoredReader.Read's closure getLine.
-/
import Derived.Test.YtempflfhlbojgaaDoorRBy
import Derived.Test.YtempflfhlbojgaaDoorShelf
import Derived.LaidEql
import Derived.Lib.SlBytesRowKit2
namespace Go.Proofs.YtempflfhlbojgaaDoor
open Go.RowKit

theorem bytesIn_of {w : World} {b o n : Nat} {l : List UInt8} (h : At w ⟨b, o, none⟩ l) (hn : l.length = n) : Lib.BytesIn w (some ⟨b, o, none⟩) n (l.map fun x => (x.toNat : Int)) := fun _ => ⟨b, o, rfl, fun i hi => by
  have hi' : i < l.length := by omega
  rw [h.cell hi', List.getD, List.getElem?_map, List.getElem?_eq_getElem hi']
  rfl⟩

theorem bytesOf_map (l : List UInt8) : Lib.bytesOf (l.map fun x => (x.toNat : Int)) = l := by
  rw [Lib.bytesOf, List.map_map]
  conv => rhs; rw [← List.map_id l]
  apply List.map_congr_left
  intro x _
  simp

/-- bytes.TrimSuffix on bytes that end in the sign. -/
theorem trim_yes (b o d g n c m : Nat) (pre : List UInt8) (x : UInt8) (w : World) (h1 : At w ⟨b, o, none⟩ (pre ++ [x])) (h2 : At w ⟨g, 0, none⟩ [x]) (hn : (pre ++ [x]).length = n) (hm : pre.length = m) (hc : n ≤ c) (hb : n ≤ 100000) :
    Calls Tryd.prog 67 #[.slice (some ⟨b, o, none⟩) n c, .slice (some ⟨g, 0, none⟩) 1 d] w fun e w' => e = .returned (.slice (some ⟨b, o, none⟩) m c) ∧ w' = w := by
  refine (Tryd.bytes_TrimSuffix_all _ _ n c 1 d _ _ w (by simpa using hn) rfl hc (by omega) (bytesIn_of h1 hn) (bytesIn_of h2 rfl)).mono ?_
  rintro e w' ⟨rfl, rfl⟩
  refine ⟨?_, rfl⟩
  rw [Go.RowKit.trimSuffixV_eq (w := w') (by simpa using hn) (bytesIn_of h1 hn), bytesOf_map, bytesOf_map, List.length_map, if_pos]
  · simp only [List.length_cons, List.length_nil]
    rw [show n - (0 + 1) = m from by rw [← hn, List.length_append]; simp [hm]]
  · simp [Lib.hasSuffix]

/-- bytes.TrimSuffix on bytes that do not end in the sign. -/
theorem trim_no (b o d g n c : Nat) (l : List UInt8) (x : UInt8) (w : World) (h1 : At w ⟨b, o, none⟩ l) (h2 : At w ⟨g, 0, none⟩ [x]) (hn : l.length = n) (hx : l.getLast? ≠ some x) (hc : n ≤ c) (hb : n ≤ 100000) :
    Calls Tryd.prog 67 #[.slice (some ⟨b, o, none⟩) n c, .slice (some ⟨g, 0, none⟩) 1 d] w fun e w' => e = .returned (.slice (some ⟨b, o, none⟩) n c) ∧ w' = w := by
  refine (Tryd.bytes_TrimSuffix_all _ _ n c 1 d _ _ w (by simpa using hn) rfl hc (by omega) (bytesIn_of h1 hn) (bytesIn_of h2 rfl)).mono ?_
  rintro e w' ⟨rfl, rfl⟩
  refine ⟨?_, rfl⟩
  rw [Go.RowKit.trimSuffixV_eq (w := w') (by simpa using hn) (bytesIn_of h1 hn), bytesOf_map, bytesOf_map, List.length_map, if_neg]
  intro h
  simp only [Lib.hasSuffix, List.isSuffixOf_iff_suffix] at h
  obtain ⟨t, rfl⟩ := h
  exact hx (by simp)

set_option maxHeartbeats 4000000 in
set_option maxRecDepth 100000 in
theorem getLine_of (vb arb rb bb o m C : Nat) (pE : Addr) (pre : List UInt8) (w : World) (R : World → Prop) (_hE : w.cell? ⟨0, 0, none⟩ = some (.iface 108 (.pointer (some pE)))) (hv : w.cell? ⟨vb, 0, none⟩ = some (.pointer (some ⟨arb, 0, none⟩))) (ha : w.cell? ⟨arb, 0, none⟩ = some (.pointer (some ⟨rb, 0, none⟩)))
    (hm : pre.length = m) (hmb : m ≤ 4000) (h13 : pre.getLast? ≠ some 13) (hRE : ∀ w', R w' → w'.cell? ⟨0, 0, none⟩ = some (.iface 108 (.pointer (some pE)))) (hat : ∀ w', R w' → At w' ⟨bb, o, none⟩ (pre ++ [10]))
    (hc : Calls Tryd.prog 84 #[.pointer (some ⟨rb, 0, none⟩), .int .u8 10] w fun e w' => e = .returned (.tuple #[.slice (some ⟨bb, o, none⟩) (m + 1) C, .nilIface]) ∧ R w') :
    Calls Tryd.prog 65 #[.pointer (some ⟨vb, 0, none⟩)] w fun e w' => ∃ g w1, e = .returned (.tuple #[.slice (some ⟨g, 0, none⟩) m (m + 1), .nilIface]) ∧ R w1 ∧ w1.heap.size ≤ g ∧ At w' ⟨g, 0, none⟩ pre ∧ Fr (fun _ => False) w1 w' := by
  have hl : (pre ++ [10]).length = m + 1 := by simp [hm]
  have hcall := readBytes_of rb bb o (m + 1) C (pre ++ [10]) w R (by omega) (by omega) hl hat hc
  have kc := fun w g C n c hg => conv_const w g C n c hg
  have hnil : ∀ w, (binOp .eql 44 .nilIface (.iface 108 (.pointer (some pE)))).run Tryd.prog w = .ok (.bool false) w := fun w => run_eql_iface_nil_left w 108 _ Tryd.underlying44
  have Hc := Lib.hid hcall
  have HRE := Lib.hid hRE
  have Hm := Lib.hid hm
  have H13 := Lib.hid h13
  have Hl := Lib.hid hl
  clear hcall hRE hm h13 hl hat hc
  go_enter Tryd.func65, Tryd.ntmps65
  go_wp2_with fail
  refine Hc.out.mono ?_
  rintro e w2 ⟨g, w1, rfl, hR, hg, hat, hf⟩
  have hE2 := hf.cell (HRE.out w1 hR) (fun h => h)
  have HR := Lib.hid hR
  have Hat := Lib.hid hat
  have Hf := Lib.hid hf
  clear hR hat hf
  go_wp2_with fail
  have fA : Fr (fun _ => False) w2 (w2.alloc (.cells #[.int .u8 10] 5 (1, 2))) := Fr.alloc _
  have aA : At (w2.alloc (.cells #[.int .u8 10] 5 (1, 2))) ⟨w2.heap.size, 0, none⟩ [10] := at_row (l := [10]) (heap_alloc_new w2 (.cells #[.int .u8 10] 5 (1, 2)))
  have fB : Fr (fun _ => False) (w2.alloc (.cells #[.int .u8 10] 5 (1, 2))) ((w2.alloc (.cells #[.int .u8 10] 5 (1, 2))).alloc (.cells #[.int .u8 13] 5 (1, 2))) := Fr.alloc _
  have aB : At ((w2.alloc (.cells #[.int .u8 10] 5 (1, 2))).alloc (.cells #[.int .u8 13] 5 (1, 2))) ⟨w2.heap.size + 1, 0, none⟩ [13] := by
    have := at_row (l := [13]) (heap_alloc_new (w2.alloc (.cells #[.int .u8 10] 5 (1, 2))) (.cells #[.int .u8 13] 5 (1, 2)))
    simpa using this
  have FA := Lib.hid fA
  have AA := Lib.hid aA
  have FB := Lib.hid fB
  have AB := Lib.hid aB
  clear fA aA fB aB
  refine (trim_yes g 0 1 w2.heap.size (m + 1) (m + 1) m pre 10 _ (Hat.out.fr FA.out (fun h => h)) AA.out Hl.out Hm.out (Nat.le_refl _) (by omega)).mono ?_
  rintro e w3 ⟨rfl, hw3⟩
  obtain rfl := hw3
  go_wp2_with fail
  have hatp : At ((w2.alloc (.cells #[.int .u8 10] 5 (1, 2))).alloc (.cells #[.int .u8 13] 5 (1, 2))) ⟨g, 0, none⟩ pre := by
    have q := ((Hat.out.fr FA.out (fun h => h)).fr FB.out (fun h => h)).drop 0 m
    rw [List.drop_zero, List.take_append_of_le_length (by rw [Hm.out]; exact Nat.le_refl _), List.take_of_length_le (by rw [Hm.out]; exact Nat.le_refl _)] at q
    exact q
  refine (trim_no g 0 1 (w2.heap.size + 1) m (m + 1) pre 13 _ (by exact hatp) (by exact AB.out) Hm.out H13.out (by omega) (by omega)).mono ?_
  rintro e w3 ⟨rfl, hw3⟩
  obtain rfl := hw3
  have Hatp := Lib.hid hatp
  clear hatp
  go_wp2_with fail
  go_ret2
  exact ⟨g, w1, rfl, HR.out, hg, Hatp.out, (Hf.out.trans FA.out (fun _ _ h => h)).trans FB.out (fun _ _ h => h)⟩
end Go.Proofs.YtempflfhlbojgaaDoor
