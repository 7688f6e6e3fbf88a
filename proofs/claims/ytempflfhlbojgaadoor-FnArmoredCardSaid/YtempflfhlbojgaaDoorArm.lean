/-
  The walks of armoredWriter's methods.
-/
import Derived.Test.YtempflfhlbojgaaDoorWEnc
namespace Go.Proofs.YtempflfhlbojgaaDoor
open Go.RowKit

theorem at_row {w : World} {g : Nat} {l : List UInt8} {t : TypeId} {fr : Nat × Nat} (h : w.heap[g]? = some (.cells (Lib.byteCells l).toArray t fr)) : At w ⟨g, 0, none⟩ l := by
  refine At.mk fun i hi => ?_
  rw [cell_of_row _ _ _ _ _ _ h, Nat.zero_add, List.getElem?_toArray, byteCells_get, List.getElem?_eq_getElem hi]
  rfl

/-- What the wrapping has let through of T. -/
def Outp (T : List UInt8) : List UInt8 := headLine ++ wrap 0 (b64 (T.take (T.length / 3 * 3)))

/-- The armored writer behind T bytes. -/
structure Sys (Y : Nat → Prop) (B eb cb bw bo ab : Nat) (T : List UInt8) (st cl : Bool) (w : World) : Prop where
  enc : Enc eb w
  arm : ArmW ab bw bo st cl w
  pend : Pend cb eb bw (T.drop (T.length / 3 * 3)) w
  chain : Chain (fun k => Y k ∨ k = eb ∨ k = cb ∨ k = ab) B cb bw bo (T.length / 3 * 4) (if st then Outp T else []) w
  ne1 : eb ≠ cb
  ne2 : eb ≠ ab
  ne3 : cb ≠ ab
  sep : ∀ k, Y k → k ≠ eb ∧ k ≠ cb ∧ k ≠ ab
  nst : st = false → T = []

theorem ArmW.cells {ab bw bo : Nat} {s c : Bool} {w : World} (h : ArmW ab bw bo s c w) : w.cell? ⟨ab, 0, none⟩ = some (.bool s) ∧ w.cell? ⟨ab, 1, none⟩ = some (.bool c) ∧ w.cell? ⟨ab, 2, none⟩ = some (.pointer (some ⟨bw, 0, none⟩)) ∧
    w.cell? ⟨ab, 3, none⟩ = some (.iface 61 (.pointer (some ⟨bo, 0, none⟩))) ∧ (∀ i, w.frozen? ⟨ab, i, none⟩ = false) ∧ ab < w.heap.size := by
  have e := fun i => cell_of_row w ab i _ _ _ h
  exact ⟨by rw [e]; rfl, by rw [e]; rfl, by rw [e]; rfl, by rw [e]; rfl, fun i => frozen_of_row _ _ _ _ _ h, (Array.getElem?_eq_some_iff.1 h).1⟩
theorem ArmW.fr {S : Nat → Prop} {ab bw bo : Nat} {s c : Bool} {w w' : World} (h : ArmW ab bw bo s c w) (hf : Fr S w w') (hn : ¬ S ab) : ArmW ab bw bo s c w' := hf.keep h hn
theorem ArmW.start {ab bw bo : Nat} {s c : Bool} {w : World} (h : ArmW ab bw bo s c w) : ArmW ab bw bo true c (w.setCell ⟨ab, 0, none⟩ (.bool true)) := by
  have := Lib.heap_setCell_same (i := 0) h (.bool true)
  simpa [ArmW] using this
theorem ArmW.close {ab bw bo : Nat} {s c : Bool} {w : World} (h : ArmW ab bw bo s c w) : ArmW ab bw bo s true (w.setCell ⟨ab, 1, none⟩ (.bool true)) := by
  have := Lib.heap_setCell_same (i := 1) h (.bool true)
  simpa [ArmW] using this

set_option maxHeartbeats 4000000 in
set_option maxRecDepth 100000 in
/-- writeHeader, the first time. -/
theorem header_first (X : Nat → Prop) (B cb bw bo ab n : Nat) (c : Bool) (w : World) (ha : ArmW ab bw bo false c w) (hch : Chain X B cb bw bo n [] w) (hXa : X ab) :
    Calls Tryd.prog 93 #[.pointer (some ⟨ab, 0, none⟩)] w fun e w' => e = .returned .nilIface ∧ ArmW ab bw bo true c w' ∧ Chain X B cb bw bo n headLine w' ∧ Fr (fun k => k = ab ∨ ¬ X k) w w' := by
  obtain ⟨a0, a1, a2, a3, fz, hlt⟩ := ha.cells
  have hna := fun F a w => nil_ahead61 F a w
  have hme := fun F a w => method61 F a w
  have kc := fun w g C n c hg => conv_const w g C n c hg
  have Ha := Lib.hid ha
  have Hch := Lib.hid hch
  clear ha hch
  go_enter Tryd.func93, Tryd.ntmps93
  go_wp2_with fail
  have hfa : Fr (fun _ => False) w (w.alloc (.cells (Lib.byteCells headLine).toArray 5 (35, 36))) := Fr.alloc _
  have hchA := Hch.out.more hfa (Nat.le_refl _) (by simp)
  have hatA : At (w.alloc (.cells (Lib.byteCells headLine).toArray 5 (35, 36))) ⟨w.heap.size, 0, none⟩ headLine := at_row (heap_alloc_new w _)
  have HchA := Lib.hid hchA
  have HatA := Lib.hid hatA
  have HarmA := Lib.hid (Ha.out.fr hfa (fun h => h))
  have Hfa := Lib.hid hfa
  clear hchA hatA hfa
  refine (chain_out (fun k => X k ∨ k = w.heap.size) B cb bw bo n w.heap.size 0 35 35 headLine [] _ (by exact HchA.out) (by exact HatA.out) rfl (by omega) (.inr rfl) (by simp)).mono ?_
  rintro e w1 ⟨rfl, k1, k2⟩
  have harm1 := HarmA.out.fr k2 (fun h => h (.inl hXa))
  obtain ⟨b0, _, _, _, bz, _⟩ := harm1.cells
  have bz0 := bz 0
  have K1 := Lib.hid k1
  have K2 := Lib.hid k2
  have Harm1 := Lib.hid harm1
  clear k1 k2 harm1
  go_wp2_with fail
  go_ret
  have hS : Fr (· = ab) w1 (w1.setCell ⟨ab, 0, none⟩ (.bool true)) := Fr.setCell ⟨ab, 0, none⟩ (.bool true) rfl
  refine ⟨rfl, Harm1.out.start, ?_, ?_⟩
  · exact (K1.out.less (Y := X) (fun _ h => .inl h)).fr hS (fun k h => by rw [h]; exact hXa)
  · refine ((Hfa.out.none (S := fun k => k = ab ∨ ¬ X k)).trans K2.out (fun i hi h => ?_)).trans hS (fun _ _ h => .inl h)
    exact .inr (fun hx => h (.inl hx))

set_option maxHeartbeats 4000000 in
set_option maxRecDepth 100000 in
theorem header_again (ab bw bo : Nat) (c : Bool) (w : World) (ha : ArmW ab bw bo true c w) : Calls Tryd.prog 93 #[.pointer (some ⟨ab, 0, none⟩)] w fun e w' => e = .returned .nilIface ∧ w' = w := by
  obtain ⟨a0, a1, a2, a3, fz, hlt⟩ := ha.cells
  clear ha
  go_enter Tryd.func93, Tryd.ntmps93
  go_wp2_with fail
  go_ret
  exact ⟨rfl, rfl⟩

/-- writeHeader. -/
theorem header_at (Y : Nat → Prop) (B eb cb bw bo ab : Nat) (T : List UInt8) (st cl : Bool) (w : World) (h : Sys Y B eb cb bw bo ab T st cl w) :
    Calls Tryd.prog 93 #[.pointer (some ⟨ab, 0, none⟩)] w fun e w' => e = .returned .nilIface ∧ Sys Y B eb cb bw bo ab T true cl w' ∧ Fr (fun k => ¬ Y k) w w' := by
  obtain ⟨h1, h2, h3, h4, h5, h6, h7, h8, h9⟩ := h
  cases st with
  | true =>
    refine (header_again ab bw bo cl w h2).mono ?_
    rintro e w' ⟨rfl, rfl⟩
    exact ⟨rfl, ⟨h1, h2, h3, h4, h5, h6, h7, h8, fun h => by cases h⟩, Fr.refl _ _⟩
  | false =>
    obtain rfl := h9 rfl
    refine (header_first _ B cb bw bo ab _ cl w h2 h4 (.inr (.inr (.inr rfl)))).mono ?_
    rintro e w' ⟨rfl, k1, k2, k3⟩
    refine ⟨rfl, ⟨h1.fr k3 ?_, k1, h3.fr k3 ?_, ?_, h5, h6, h7, h8, fun h => by cases h⟩, k3.mono (fun i _ hi hy => ?_)⟩
    · rintro (e | e)
      · exact h6 e
      · exact e (.inr (.inl rfl))
    · rintro (e | e)
      · exact h7 e
      · exact e (.inr (.inr (.inl rfl)))
    · simpa [Outp, b64, wrap] using k2
    · rcases hi with hi | hi
      · exact (h8 i hy).2.2 hi
      · exact hi (.inl hy)

/-- What more bytes make of what is out. -/
theorem outp_more (T ps : List UInt8) (q : Nat) (hq : q = (T.drop (T.length / 3 * 3) ++ ps).length / 3 * 3) :
    Outp T ++ wrap (T.length / 3 * 4) (b64 ((T.drop (T.length / 3 * 3) ++ ps).take q)) = Outp (T ++ ps) ∧ T.length / 3 * 4 + q / 3 * 4 = (T ++ ps).length / 3 * 4 ∧ (T.drop (T.length / 3 * 3) ++ ps).drop q = (T ++ ps).drop ((T ++ ps).length / 3 * 3) := by
  have hl : (T.drop (T.length / 3 * 3)).length = T.length % 3 := by rw [List.length_drop]; omega
  have hq2 : q = (T.length % 3 + ps.length) / 3 * 3 := by rw [hq, List.length_append, hl]
  have hL : (T ++ ps).length / 3 * 3 = T.length / 3 * 3 + q := by rw [List.length_append]; omega
  have hT : T ++ ps = T.take (T.length / 3 * 3) ++ (T.drop (T.length / 3 * 3) ++ ps) := by rw [← List.append_assoc, List.take_append_drop]
  have htl : (T.take (T.length / 3 * 3)).length = T.length / 3 * 3 := by rw [List.length_take]; omega
  refine ⟨?_, ?_, ?_⟩
  · unfold Outp
    rw [hL]
    have e : (T ++ ps).take (T.length / 3 * 3 + q) = T.take (T.length / 3 * 3) ++ (T.drop (T.length / 3 * 3) ++ ps).take q := by
      conv => lhs; rw [hT]
      rw [List.take_append, htl, Nat.add_sub_cancel_left, List.take_of_length_le (by rw [htl]; omega)]
    have hb : (b64 (T.take (T.length / 3 * 3))).length = T.length / 3 * 4 := by rw [b64_length, htl]; omega
    rw [e, b64_append _ _ (by rw [htl]; omega), wrap_append, hb, List.append_assoc, Nat.zero_add]
  · rw [List.length_append]; omega
  · rw [hL]
    conv => rhs; rw [hT]
    rw [← List.drop_drop, List.drop_left' htl]

theorem outp_length (T : List UInt8) : (Outp T).length ≤ 35 + 2 * (T.length / 3 * 4) := by
  unfold Outp
  have h1 := wrap_length_le (b64 (T.take (T.length / 3 * 3))) 0
  have h2 := b64_length (T.take (T.length / 3 * 3))
  rw [List.length_take] at h2
  rw [List.length_append, show headLine.length = 35 from rfl]
  omega

set_option maxHeartbeats 4000000 in
set_option maxRecDepth 100000 in
/-- armoredWriter.Write. -/
theorem arm_write (Y : Nat → Prop) (B eb cb bw bo ab pb po c : Nat) (T ps : List UInt8) (st : Bool) (w : World) (h : Sys Y B eb cb bw bo ab T st false w) (hY : Y pb) (hps : At w ⟨pb, po, none⟩ ps) (L : Nat) (hl : ps.length = L) (hL1 : 1 ≤ L) (hL2 : T.length + L ≤ 5000) (hc : L ≤ c) (hc2 : c ≤ 9223372036854775807) :
    Calls Tryd.prog 92 #[.pointer (some ⟨ab, 0, none⟩), .slice (some ⟨pb, po, none⟩) L c] w fun e w' => e = .returned (.tuple #[.int .i64 L, .nilIface]) ∧ Sys Y B eb cb bw bo ab (T ++ ps) true false w' ∧ Fr (fun k => ¬ Y k) w w' := by
  obtain ⟨a0, a1, a2, a3, fz, hlt⟩ := h.arm.cells
  have H := Lib.hid h
  have Hps := Lib.hid hps
  have Hl := Lib.hid hl
  clear h hps hl
  go_enter Tryd.func92, Tryd.ntmps92
  go_wp2_with fail
  refine (header_at Y B eb cb bw bo ab T st false _ H.out).mono ?_
  rintro e w1 ⟨rfl, k1, k2⟩
  obtain ⟨b0, b1, b2, b3, bz, blt⟩ := k1.arm.cells
  have hat1 := Hps.out.fr k2 (fun h => h hY)
  have hsep := k1.sep pb hY
  have K1 := Lib.hid k1
  have K2 := Lib.hid k2
  have Hat1 := Lib.hid hat1
  clear k1 k2 hat1
  go_wp2_with fail
  have hpl : (T.drop (T.length / 3 * 3)).length ≤ 2 := by rw [List.length_drop]; omega
  have hob := outp_length T
  refine (wenc_write _ B cb eb bw bo (T.length / 3 * 4) pb po c (T.drop (T.length / 3 * 3)) ps (Outp T) _ K1.out.pend hpl K1.out.chain K1.out.enc (.inr (.inr (.inl rfl))) (.inr (.inl rfl)) (.inl hY) K1.out.ne1 hsep.2.1 Hat1.out L Hl.out hL1 (by omega) hc hc2 (by omega) (by omega)).mono ?_
  rintro e w2 ⟨rfl, q, hq, m1, m2, m3⟩
  obtain ⟨o1, o2, o3⟩ := outp_more T ps q hq
  rw [o1, o2] at m2
  rw [o3] at m1
  have M1 := Lib.hid m1
  have M2 := Lib.hid m2
  have M3 := Lib.hid m3
  clear m1 m2 m3 hq o1 o2 o3
  go_wp2_with fail
  go_ret2
  refine ⟨rfl, ⟨K1.out.enc.fr M3.out ?_, K1.out.arm.fr M3.out ?_, M1.out, M2.out, K1.out.ne1, K1.out.ne2, K1.out.ne3, K1.out.sep, fun h => by cases h⟩, K2.out.trans M3.out (fun i _ hi hy => ?_)⟩
  · rintro (e | e)
    · exact K1.out.ne1 e
    · exact e (.inr (.inl rfl))
  · rintro (e | e)
    · exact K1.out.ne3 e.symm
    · exact e (.inr (.inr (.inr rfl)))
  · rcases hi with hi | hi
    · exact (K1.out.sep i hy).2.1 hi
    · exact hi (.inl hy)
end Go.Proofs.YtempflfhlbojgaaDoor
