/-
  The conversion of a string to bytes; the walk of armoredWriter.Close.
-/
import Derived.Test.YtempflfhlbojgaaDoorArm
import Derived.Lib.ConvBytes
import Derived.Laws.AppendOwn
namespace Go.Proofs.YtempflfhlbojgaaDoor
open Go.RowKit

theorem bytes_new (w : World) (e : TypeId) (s : ByteArray) : At (Lib.bytesWorld w e s) ⟨w.heap.size, 0, none⟩ s.data.toList ∧ Fr (fun _ => False) w (Lib.bytesWorld w e s) ∧ w.heap.size < (Lib.bytesWorld w e s).heap.size := by
  refine ⟨At.mk fun i hi => ?_, ⟨?_, ?_, ?_, ?_, fun k hk _ => Lib.bytesWorld_at_old w e s k hk⟩, ?_⟩
  · rw [Nat.zero_add, Lib.bytesWorld_cell w e s i (by simpa using hi)]
    simp [List.getD, List.getElem?_eq_getElem hi]
  · rfl
  · rfl
  · rfl
  · rw [Lib.bytesWorld_size]; omega
  · rw [Lib.bytesWorld_size]; omega

/-- []byte(s). -/
theorem wpList_bytes {P : Program} {w : World} {ops : Array Oper} {rest : List Oper} {o : Oper} {a : Act} {Q : Exit → Act → World → Prop} (hgd : o.guard = none) (x : Operand) (src dst e : TypeId) (ho : o.op = .convert src dst x) {u : TypeDesc}
    (hs : P.underlying src = some u) (hd : P.underlying dst = some (.slice e)) (he : P.underlying e = some (.int .u8)) (s : ByteArray) (hx : a.eval x = .string s) (bs : List UInt8) (hbs : s.data.toList = bs) (n : Nat) (hn : bs.length = n) (hn2 : n ≤ 9223372036854775807)
    (h : ∀ c w', n ≤ c → c ≤ 9223372036854775807 → Hid (At w' ⟨w.heap.size, 0, none⟩ bs) → Hid (Fr (fun _ => False) w w') → w.heap.size < w'.heap.size → wpList P ops Q rest (a.put o.dst (.slice (some ⟨w.heap.size, 0, none⟩) n c)) w') :
    wpList P ops Q (o :: rest) a w := by
  subst hbs hn
  have e1 : s.data.toList.length = s.size := by simp
  rw [e1] at h hn2
  refine wpList_plain hgd fun K hK => ?_
  have hrun := Lib.run_convert_string_bytes (P := P) w src dst e s hs hd he
  obtain ⟨h1, h2, h3⟩ := bytes_new w e s
  unfold Oper.wp
  simp [execOp, ho, hx, hrun, Result.andThen]
  exact hK _ _ (h _ _ (grownCap_ge _ _ _ _) (grownCap_le_maxLen _ _ _ _ hn2) h1 h2 h3)
theorem close_text (T : List UInt8) : Outp T ++ wrap (T.length / 3 * 4) (b64 (T.drop (T.length / 3 * 3))) = headLine ++ wrap 0 (b64 T) ∧ T.length / 3 * 4 + (b64 (T.drop (T.length / 3 * 3))).length = (b64 T).length := by
  have htl : (T.take (T.length / 3 * 3)).length = T.length / 3 * 3 := by rw [List.length_take]; omega
  have hb : (b64 (T.take (T.length / 3 * 3))).length = T.length / 3 * 4 := by rw [b64_length, htl]; omega
  have e : b64 T = b64 (T.take (T.length / 3 * 3)) ++ b64 (T.drop (T.length / 3 * 3)) := by
    rw [← b64_append _ _ (by rw [htl]; omega), List.take_append_drop]
  constructor
  · unfold Outp
    rw [e, wrap_append, hb, List.append_assoc, Nat.zero_add]
  · rw [e, List.length_append, hb]

set_option maxHeartbeats 4000000 in
set_option maxRecDepth 100000 in
/-- armoredWriter.Close. -/
theorem arm_close (Y : Nat → Prop) (B eb cb bw bo ab : Nat) (T : List UInt8) (st : Bool) (w : World) (h : Sys Y B eb cb bw bo ab T st false w) (hT : T.length ≤ 5000) :
    Calls Tryd.prog 91 #[.pointer (some ⟨ab, 0, none⟩)] w fun e w' => e = .returned .nilIface ∧ (∃ n, Chain Y B cb bw bo n (armorText T) w') ∧ Fr (fun k => ¬ Y k) w w' := by
  obtain ⟨a0, a1, a2, a3, fz, hlt⟩ := h.arm.cells
  have fz1 := fz 1
  have hS : Fr (· = ab) w (w.setCell ⟨ab, 1, none⟩ (.bool true)) := Fr.setCell ⟨ab, 1, none⟩ (.bool true) rfl
  have h1 : Sys Y B eb cb bw bo ab T st true (w.setCell ⟨ab, 1, none⟩ (.bool true)) :=
    ⟨h.enc.fr hS h.ne2, h.arm.close, h.pend.fr hS h.ne3, h.chain.fr hS (fun k e => .inr (.inr (.inr e))), h.ne1, h.ne2, h.ne3, h.sep, h.nst⟩
  have hnY : ∀ i, i = ab → ¬ Y i := fun i e hy => (h.sep i hy).2.2 e
  have H1 := Lib.hid h1
  have HS := Lib.hid hS
  clear h h1 hS
  go_enter Tryd.func91, Tryd.ntmps91
  go_wp2_with fail
  refine (header_at Y B eb cb bw bo ab T st true _ H1.out).mono ?_
  rintro e w1 ⟨rfl, k1, k2⟩
  obtain ⟨b0, b1, b2, b3, bz, blt⟩ := k1.arm.cells
  have K1 := Lib.hid k1
  have K2 := Lib.hid k2
  clear k1 k2
  go_wp2_with fail
  have hpl : (T.drop (T.length / 3 * 3)).length ≤ 2 := by rw [List.length_drop]; omega
  have hob := outp_length T
  refine (wenc_close _ B cb eb bw bo (T.length / 3 * 4) (T.drop (T.length / 3 * 3)) (Outp T) _ K1.out.pend hpl K1.out.chain K1.out.enc (.inr (.inr (.inl rfl))) (.inr (.inl rfl)) K1.out.ne1 (by omega) (by omega)).mono ?_
  rintro e w2 ⟨rfl, m2, m3⟩
  have harm2 : ArmW ab bw bo true true w2 := K1.out.arm.fr m3 (by rintro (e | e); exact K1.out.ne3 e.symm; exact e (.inr (.inr (.inr rfl))))
  obtain ⟨d0, d1, d2, d3, dz, dlt⟩ := harm2.cells
  have M2 := Lib.hid m2
  have M3 := Lib.hid m3
  clear m2 m3 harm2
  go_wp2_with fail
  refine (lastLine_at _ B cb bw bo _ _ _ M2.out (by have := b64_length (T.drop (T.length / 3 * 3)); omega)).mono ?_
  rintro e w3 ⟨rfl, hw3⟩
  obtain rfl : w2 = w3 := hw3.symm
  obtain ⟨N, hN⟩ : ∃ N, N = T.length / 3 * 4 + (b64 (T.drop (T.length / 3 * 3))).length := ⟨_, rfl⟩
  rw [← hN]
  have HN := Lib.hid hN
  clear hN
  have hna := fun F a w => nil_ahead61 F a w
  have hme := fun F a w => method61 F a w
  by_cases hmod : N % 64 = 0
  · have hd : decide (N % 64 = 0) = true := decide_eq_true hmod
    go_wp2_with ((with_reducible refine wpList_bytes rfl _ 9 22 5 rfl Tryd.underlying9 Tryd.underlying22 Tryd.underlying5 _ rfl (footLine ++ [10]) (by kernel_rfl) 33 rfl (by omega) ?_); intro c5 w5 hc5 hc5' hat5 hf5 hlt5)
    have hch5 := M2.out.more hf5.out (Nat.le_refl _) hlt5
    have Hch5 := Lib.hid hch5
    clear hch5
    have hb1 := wrap_length_le (b64 (T.drop (T.length / 3 * 3))) (T.length / 3 * 4)
    have hb2 := b64_length (T.drop (T.length / 3 * 3))
    refine (chain_out _ B cb bw bo _ w2.heap.size 0 33 c5 (footLine ++ [10]) _ _ Hch5.out hat5.out rfl (by omega) (.inr rfl) (by rw [List.length_append]; omega)).mono ?_
    rintro e w6 ⟨rfl, j1, j2⟩
    have J1 := Lib.hid j1
    have J2 := Lib.hid j2
    clear j1 j2
    go_wp2_with fail
    go_ret
    obtain ⟨ct1, ct2⟩ := close_text T
    have hch6 := J1.out.less (Y := Y) (fun _ h => .inl (.inl h))
    refine ⟨rfl, ⟨T.length / 3 * 4 + (b64 (T.drop (T.length / 3 * 3))).length, ?_⟩, ?_⟩
    · have e : armorText T = Outp T ++ wrap (T.length / 3 * 4) (b64 (T.drop (T.length / 3 * 3))) ++ (footLine ++ [10]) := by
        rw [ct1, armorText, ← ct2, ← HN.out, if_pos hmod]
        simp
      rw [e]
      exact hch6
    · have f1 : Fr (fun k => ¬ Y k) w _ := HS.out.mono (fun i _ h => hnY i h)
      have f2 := f1.trans K2.out (fun _ _ h => h)
      have f3 := f2.trans M3.out (fun i _ h hy => by
        rcases h with h | h
        · exact (K1.out.sep i hy).2.1 h
        · exact h (.inl hy))
      have f4 := f3.trans (hf5.out.none (S := fun k => ¬ Y k)) (fun _ _ h => h)
      exact f4.trans J2.out (fun i _ h hy => h (.inl (.inl hy)))
  · have hd : decide (N % 64 = 0) = false := decide_eq_false hmod
    go_wp2_with ((with_reducible refine wpList_bytes rfl _ 9 22 5 rfl Tryd.underlying9 Tryd.underlying22 Tryd.underlying5 _ rfl (10 :: (footLine ++ [10])) (by kernel_rfl) 34 rfl (by omega) ?_); intro c5 w5 hc5 hc5' hat5 hf5 hlt5)
    have hch5 := M2.out.more hf5.out (Nat.le_refl _) hlt5
    have Hch5 := Lib.hid hch5
    clear hch5
    have hb1 := wrap_length_le (b64 (T.drop (T.length / 3 * 3))) (T.length / 3 * 4)
    have hb2 := b64_length (T.drop (T.length / 3 * 3))
    refine (chain_out _ B cb bw bo _ w2.heap.size 0 34 c5 (10 :: (footLine ++ [10])) _ _ Hch5.out hat5.out rfl (by omega) (.inr rfl) (by rw [List.length_append]; omega)).mono ?_
    rintro e w6 ⟨rfl, j1, j2⟩
    have J1 := Lib.hid j1
    have J2 := Lib.hid j2
    clear j1 j2
    go_wp2_with fail
    go_ret
    obtain ⟨ct1, ct2⟩ := close_text T
    have hch6 := J1.out.less (Y := Y) (fun _ h => .inl (.inl h))
    refine ⟨rfl, ⟨T.length / 3 * 4 + (b64 (T.drop (T.length / 3 * 3))).length, ?_⟩, ?_⟩
    · have e : armorText T = Outp T ++ wrap (T.length / 3 * 4) (b64 (T.drop (T.length / 3 * 3))) ++ (10 :: (footLine ++ [10])) := by
        rw [ct1, armorText, ← ct2, ← HN.out, if_neg hmod]
        simp
      rw [e]
      exact hch6
    · have f1 : Fr (fun k => ¬ Y k) w _ := HS.out.mono (fun i _ h => hnY i h)
      have f2 := f1.trans K2.out (fun _ _ h => h)
      have f3 := f2.trans M3.out (fun i _ h hy => by
        rcases h with h | h
        · exact (K1.out.sep i hy).2.1 h
        · exact h (.inl hy))
      have f4 := f3.trans (hf5.out.none (S := fun k => ¬ Y k)) (fun _ _ h => h)
      exact f4.trans J2.out (fun i _ h hy => h (.inl (.inl hy)))
end Go.Proofs.YtempflfhlbojgaaDoor
