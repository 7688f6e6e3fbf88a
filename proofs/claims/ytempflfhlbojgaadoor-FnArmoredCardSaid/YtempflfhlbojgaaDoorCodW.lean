/-
  The walk of base64's encoder.Write: what waited and what came in go in threes through Encode to the wrapping writer; the rest waits.
-/
import Derived.Test.YtempflfhlbojgaaDoorCodL
import Derived.Deep.DeepCutAuto
namespace Go.Proofs.YtempflfhlbojgaaDoor
open Go.RowKit

theorem splice_six {eb bw : Nat} {cs : Array Value} (h : PendC eb bw [] cs) (l : List UInt8) (hl : l.length ≤ 3) : (splice cs.toList 3 (Lib.byteCells l)).toArray[6]? = some (.int .i64 0) := by
  obtain ⟨h0, h1, h2, h3, h4, h5, h6⟩ := h
  rw [List.getElem?_toArray, splice_get _ _ _ _ (by rw [byteCells_length]; simp; omega), if_neg (by rw [byteCells_length]; omega)]
  simpa using h5

theorem held_store {w : World} {cb : Nat} {v x : Value} (h : w.cell? ⟨cb, 2, none⟩ = some v ∧ w.frozen? ⟨cb, 0, none⟩ = false) : (w.setCell ⟨cb, 0, none⟩ x).cell? ⟨cb, 2, none⟩ = some v ∧ (w.setCell ⟨cb, 0, none⟩ x).frozen? ⟨cb, 0, none⟩ = false :=
  ⟨(World.cell?_setCell_other (w := w) (v := x) (a := ⟨cb, 0, none⟩) (b := ⟨cb, 2, none⟩) (by intro e; injection e with _ e2; omega)).trans h.1, by rw [World.frozen?_setCell]; exact h.2⟩

theorem wrap_i64_of (n : Int) (h0 : 0 ≤ n) (h1 : n < 4611686018427387904) : IntKind.i64.wrap n = n := by
  rw [IntKind.wrap]; simp [IntKind.bits, IntKind.signed]; omega

set_option maxHeartbeats 4000000 in
set_option maxRecDepth 100000 in
theorem coder_write (X : Nat → Prop) (B cb eb bw bo n pb po c : Nat) (pend ps out : List UInt8) (w : World) (hp : Pend cb eb bw pend w) (hpl : pend.length ≤ 2) (hch : Chain X B cb bw bo n out w) (he : Enc eb w)
    (hXc : X cb) (hXe : X eb) (hXp : X pb) (hec : eb ≠ cb) (hpc : pb ≠ cb) (hps : At w ⟨pb, po, none⟩ ps) (hL1 : 1 ≤ ps.length) (hL2 : ps.length ≤ 5000) (hc : ps.length ≤ c) (hc2 : c ≤ 9223372036854775807) (hn : n ≤ 50000) (hout : out.length ≤ 100000) :
    Calls Tryd.prog 100 #[.pointer (some ⟨cb, 0, none⟩), .slice (some ⟨pb, po, none⟩) ps.length c] w fun e w' => e = .returned (.tuple #[.int .i64 ps.length, .nilIface]) ∧
      ∃ q, q = (pend ++ ps).length / 3 * 3 ∧ Pend cb eb bw ((pend ++ ps).drop q) w' ∧ Chain X B cb bw bo (n + q / 3 * 4) (out ++ wrap n (b64 ((pend ++ ps).take q))) w' ∧ Fr (fun k => k = cb ∨ ¬ X k) w w' := by
  obtain ⟨c0, c1, c2, c6, fz, hlt⟩ := hp.cells
  have Hp := Lib.hid hp
  have Hch := Lib.hid hch
  have He := Lib.hid he
  have Hps := Lib.hid hps
  clear hp hch he hps
  go_enter Tryd.func100, Tryd.ntmps100
  go_upto_if 21 with fail
  go_cut [1, 4, 5, 6] (fun v1 v4 v5 _ wx => ∃ k a, v1 = .slice a (ps.length - k) (c - k) ∧ v4 = .int .i64 (k : Nat) ∧ v5 = .nilIface ∧ Tail X B cb eb bw bo n pb po pend ps out w k a wx)
  case first =>
    by_cases h0 : pend.length = 0
    · have ht : Tail X B cb eb bw bo n pb po pend ps out w 0 (some ⟨pb, po, none⟩) w := by
        have hpe : pend = [] := List.eq_nil_of_length_eq_zero h0
        refine ⟨Nat.zero_le _, fun _ => by simp, by rw [h0], hpe ▸ Hp.out, ?_, Fr.refl _ _⟩
        rw [hpe]
        simpa [b64, wrap] using Hch.out
      have Ht := Lib.hid ht
      clear ht
      have hpg : ((0 : Int) < (pend.length : Int)) = False := by rw [h0]; simp
      go_wp2_with fail
      go_meet
      exact ⟨0, some ⟨pb, po, none⟩, by rw [Nat.sub_zero, Nat.sub_zero], rfl, rfl, Ht.out⟩
    · have hpg : (0 : Int) < (pend.length : Int) := by omega
      go_wp2_with fail
      go_loopw [6] (fun i6 wr => ∃ i : Nat, i6 = .int .i64 i ∧ Fringe cb eb bw pb po c pend ps w wr i) (fun i6 _ => ps.length - (intOf i6).toNat)
      case atStart => exact ⟨0, rfl, Nat.zero_le _, by simpa using Hp.out, Fr.refl _ _⟩
      case round =>
        obtain ⟨i, rfl, hF⟩ := hrel
        obtain ⟨d0, d1, d2, d6, fz, hlt⟩ := hF.pend.cells
        have hi := hF.le
        rw [List.length_append, List.length_take, Nat.min_eq_left hi] at d6
        have h3 := hF.pend
        obtain ⟨N, hN⟩ : ∃ N, N = pend.length + i := ⟨_, rfl⟩
        rw [← hN] at d6
        have hN3 : N ≤ 3 := by
          obtain ⟨cs, _, hc⟩ := h3
          have := hc.2.2.2.2.2.2
          rw [List.length_append, List.length_take, Nat.min_eq_left hi] at this
          omega
        clear h3
        by_cases hgo : i < ps.length ∧ N < 3
        · obtain ⟨hil, hN3'⟩ := hgo
          have hpx : wr.cell? ⟨pb, po + i, none⟩ = some (.int .u8 ps[i].toNat) := (Hps.out.fr hF.fr hpc).cell hil
          obtain ⟨x, hx⟩ : ∃ x, x = ps[i] := ⟨_, rfl⟩
          rw [← hx] at hpx
          have hbuf : ∃ v, wr.cell? ⟨cb, 3 + N, none⟩ = some v := by
            obtain ⟨cs, hb, hc⟩ := hF.pend
            exact ⟨cs[3 + N]'(by rw [hc.1]; omega), by rw [cell_of_row _ _ _ _ _ _ hb, Array.getElem?_eq_getElem]⟩
          obtain ⟨v, hv⟩ := hbuf
          have Hx := Lib.hid hx
          have HN := Lib.hid hN
          have HF := Lib.hid hF
          clear hx hN hF
          go_wp2_with fail
          go_region
          go_wp2_with fail
          refine ⟨⟨i + 1, by go_num, hil, ?_, ?_⟩, by simp [intOf]; omega⟩
          · obtain ⟨cs, hb, hcs⟩ := HF.out.pend
            have hl : (pend ++ ps.take i).length = N := by rw [List.length_append, List.length_take, Nat.min_eq_left hi, HN.out]
            have h2 := hcs.push x (by rw [hl]; omega)
            rw [hl] at h2
            refine ⟨_, Lib.heap_setCell_same (Lib.heap_setCell_same hb _) _, ?_⟩
            have e : pend ++ ps.take (i + 1) = pend ++ ps.take i ++ [x] := by
              rw [List.take_succ_eq_append_getElem hil, Hx.out, List.append_assoc]
            rw [e, show ((N : Int) + 1) = ((N + 1 : Nat) : Int) from by simp]
            exact h2
          · refine (HF.out.fr.trans (T := (· = cb)) (Fr.setCell ⟨cb, 3 + N, none⟩ (.int .u8 x.toNat) rfl) (fun _ _ h => h)).trans (T := (· = cb)) ?_ (fun _ _ h => h)
            exact Fr.trans (S := (· = cb)) (T := (· = cb)) (Fr.setCell ⟨cb, 6, none⟩ (.int .i64 (N + 1)) rfl) Fr.drew (fun _ _ h => h)
        · by_cases hN3' : N < 3
          · obtain rfl : i = ps.length := by omega
            have HN := Lib.hid hN
            have HF := Lib.hid hF
            clear hN hF
            by_cases hci : c = ps.length
            all_goals
              go_wp2_with fail
              go_returns
              have hq : (pend ++ ps).length / 3 * 3 = 0 := by rw [List.length_append]; have := HN.out; omega
              refine ⟨rfl, 0, hq.symm, ?_, ?_, HF.out.fr.mono (fun _ _ h => .inl h)⟩
              · have := HF.out.pend
                rw [List.take_of_length_le (Nat.le_refl _)] at this
                exact this
              · have := Hch.out.fr HF.out.fr (fun k h => by rw [h]; exact hXc)
                simpa [b64, wrap] using this
          · obtain rfl : N = 3 := by omega
            have HN := Lib.hid hN
            have HF := Lib.hid hF
            clear hN hF
            have hl : (pend ++ ps.take i).length = 3 := by rw [List.length_append, List.length_take, Nat.min_eq_left hi]; exact HN.out.symm
            obtain ⟨cs0, hb0, hcs0⟩ := HF.out.pend
            have hat0 := HF.out.pend.at
            have hen0 := He.out.fr HF.out.fr hec
            obtain ⟨src, hsrc⟩ : ∃ src, src = pend ++ ps.take i := ⟨_, rfl⟩
            rw [← hsrc] at hl hat0 hcs0
            have hsz0 := hcs0.1
            have Hb0 := Lib.hid hb0
            have Hcs0 := Lib.hid hcs0
            have Hat0 := Lib.hid hat0
            have Hen0 := Lib.hid hen0
            have Hsrc := Lib.hid hsrc
            have Hl := Lib.hid hl
            clear hb0 hcs0 hat0 hen0 hsrc hl
            have hb1 : (b64 src).length = 4 := by rw [b64_length, Hl.out]
            have Hb1 := Lib.hid hb1
            clear hb1
            have hci' : i < ps.length → ¬ c = i := by omega
            by_cases hil : i < ps.length
            · have hci := hci' hil
              go_wp2_with fail
              go_region_held3 (fun w' => w'.cell? ⟨cb, 1, none⟩ = some (.pointer (some ⟨eb, 0, none⟩))) (assumption) (first | (go_at_call 101; refine (encode_len cb 7 1024 cb 3 3 3 eb 96 src cs0 _ (by exact Hb0.out) (Hen0.out.fr (Fr.drew (S := fun _ => False)) (fun h => h)) hec (by exact Hat0.out) (.inr (by omega)) Hl.out (by omega) (by omega) (by omega) (by rw [Hb1.out]; omega) (by omega) (by rw [hsz0]; omega) (by omega)).mono ?_; rintro e w1 ⟨rfl, cs1, hk1, hk2, hk3⟩; have hcs1 := Hcs0.out.spliced hk2; have hc1 : w1.cell? ⟨cb, 1, none⟩ = some (.pointer (some ⟨eb, 0, none⟩)) := by rw [cell_of_row _ _ _ _ _ _ hk1]; exact hcs1.2.2.1))
              have hat1 := spliced_at hk1 hk2
              obtain ⟨g0, g1, g2, g6, gz, glt⟩ := Pend.cells ⟨cs1, hk1, hcs1⟩
              have hfr1 : Fr (· = cb) w w1 := (HF.out.fr.trans (T := (· = cb)) Fr.drew (fun _ _ h => h)).trans (T := (· = cb)) hk3 (fun _ _ h => h)
              have hch1 := Hch.out.fr hfr1 (fun k h => by rw [h]; exact hXc)
              have Hat1 := Lib.hid hat1
              have Hfr1 := Lib.hid hfr1
              have Hch1 := Lib.hid hch1
              have hp1 : Pend cb eb bw src w1.drew := ⟨cs1, hk1, hcs1⟩
              have Hp1 := Lib.hid hp1
              clear hat1 hfr1 hch1 hk2 hk3 hcs1 hk1 hc1 hp1
              go_wp2_with fail
              have gz0 := gz 0
              have hme := fun F v w => method86 F v w
              have hna := fun F v w => nil_ahead86 F v w
              go_region_held3 (fun w' => w'.cell? ⟨cb, 2, none⟩ = some (.iface 86 (.func (.func 33) #[.pointer (some ⟨bw, 0, none⟩)] #[])) ∧ w'.frozen? ⟨cb, 0, none⟩ = false) (first | (constructor <;> assumption) | exact held_store (by constructor <;> assumption)) (first | (go_at_call 98; refine (wfunc_len X B cb bw bo n cb 7 1024 4 (b64 src) out _ (Hch1.out.fr (Fr.drew (S := fun _ => False)) (fun _ h => h.elim)) (by exact Hat1.out) hXc Hb1.out (by omega) (by omega) (by omega) (by omega) (by omega) (by omega)).mono ?_; rintro e w2 ⟨rfl, hm1, hm2⟩; have hp2 := Hp1.out.fr hm2 (fun h => h hXc); obtain ⟨_, _, j2, _, jz, _⟩ := hp2.cells; have jz0 := jz 0))
              have hfr2 := hm2
              have Hp2 := Lib.hid hp2
              have Hm1 := Lib.hid hm1
              have Hm2 := Lib.hid hm2
              clear hp2 hm1 hm2
              go_wp2_with fail
              have ht : Tail X B cb eb bw bo n pb po pend ps out w i (some ⟨pb, po + i, none⟩) ((w2.setCell ⟨cb, 0, none⟩ .nilIface).setCell ⟨cb, 6, none⟩ (.int .i64 0)) := by
                have hS : Fr (· = cb) w2 ((w2.setCell ⟨cb, 0, none⟩ .nilIface).setCell ⟨cb, 6, none⟩ (.int .i64 0)) :=
                  Fr.trans (S := (· = cb)) (T := (· = cb)) (Fr.setCell ⟨cb, 0, none⟩ .nilIface rfl) (Fr.setCell ⟨cb, 6, none⟩ (.int .i64 0) rfl) (fun _ _ h => h)
                refine ⟨hi, fun _ => rfl, by have := HN.out; omega, ?_, ?_, ?_⟩
                · obtain ⟨cs2, k1, k2⟩ := Hp2.out
                  exact ⟨_, Lib.heap_setCell_same (Lib.heap_setCell_same k1 _) _, k2.err.zero⟩
                · have := Hm1.out.fr hS (fun j h => by rw [h]; exact hXc)
                  have e : (pend ++ ps).take (pend.length + i) = src := by rw [Hsrc.out, List.take_append, List.take_of_length_le (by omega)]; simp
                  rw [e, show n + (pend.length + i) / 3 * 4 = n + 4 from by have := HN.out; omega]
                  exact this
                · have f1 : Fr (fun j => j = cb ∨ ¬ X j) w w1.drew := (Hfr1.out.mono (T := fun j => j = cb ∨ ¬ X j) (fun _ _ h => .inl h)).trans (Fr.none Fr.drew) (fun _ _ h => h)
                  have f2 : Fr (fun j => j = cb ∨ ¬ X j) w1.drew w2 := Hm2.out.mono (fun _ _ h => .inr h)
                  exact (f1.trans f2 (fun _ _ h => h)).trans hS (fun _ _ h => .inl h)
              go_meet
              exact ⟨i, some ⟨pb, po + i, none⟩, rfl, rfl, rfl, ht⟩
            · obtain rfl : i = ps.length := by omega
              by_cases hci : c = ps.length
              · go_wp2_with fail
                go_region_held3 (fun w' => w'.cell? ⟨cb, 1, none⟩ = some (.pointer (some ⟨eb, 0, none⟩))) (assumption) (first | (go_at_call 101; refine (encode_len cb 7 1024 cb 3 3 3 eb 96 src cs0 _ (by exact Hb0.out) (Hen0.out.fr (Fr.drew (S := fun _ => False)) (fun h => h)) hec (by exact Hat0.out) (.inr (by omega)) Hl.out (by omega) (by omega) (by omega) (by rw [Hb1.out]; omega) (by omega) (by rw [hsz0]; omega) (by omega)).mono ?_; rintro e w1 ⟨rfl, cs1, hk1, hk2, hk3⟩; have hcs1 := Hcs0.out.spliced hk2; have hc1 : w1.cell? ⟨cb, 1, none⟩ = some (.pointer (some ⟨eb, 0, none⟩)) := by rw [cell_of_row _ _ _ _ _ _ hk1]; exact hcs1.2.2.1))
                have hat1 := spliced_at hk1 hk2
                obtain ⟨g0, g1, g2, g6, gz, glt⟩ := Pend.cells ⟨cs1, hk1, hcs1⟩
                have hfr1 : Fr (· = cb) w w1 := (HF.out.fr.trans (T := (· = cb)) Fr.drew (fun _ _ h => h)).trans (T := (· = cb)) hk3 (fun _ _ h => h)
                have hch1 := Hch.out.fr hfr1 (fun k h => by rw [h]; exact hXc)
                have Hat1 := Lib.hid hat1
                have Hfr1 := Lib.hid hfr1
                have Hch1 := Lib.hid hch1
                have hp1 : Pend cb eb bw src w1.drew := ⟨cs1, hk1, hcs1⟩
                have Hp1 := Lib.hid hp1
                clear hat1 hfr1 hch1 hk2 hk3 hcs1 hk1 hc1 hp1
                go_wp2_with fail
                have gz0 := gz 0
                have hme := fun F v w => method86 F v w
                have hna := fun F v w => nil_ahead86 F v w
                go_region_held3 (fun w' => w'.cell? ⟨cb, 2, none⟩ = some (.iface 86 (.func (.func 33) #[.pointer (some ⟨bw, 0, none⟩)] #[])) ∧ w'.frozen? ⟨cb, 0, none⟩ = false) (first | (constructor <;> assumption) | exact held_store (by constructor <;> assumption)) (first | (go_at_call 98; refine (wfunc_len X B cb bw bo n cb 7 1024 4 (b64 src) out _ (Hch1.out.fr (Fr.drew (S := fun _ => False)) (fun _ h => h.elim)) (by exact Hat1.out) hXc Hb1.out (by omega) (by omega) (by omega) (by omega) (by omega) (by omega)).mono ?_; rintro e w2 ⟨rfl, hm1, hm2⟩; have hp2 := Hp1.out.fr hm2 (fun h => h hXc); obtain ⟨_, _, j2, _, jz, _⟩ := hp2.cells; have jz0 := jz 0))
                have hfr2 := hm2
                have Hp2 := Lib.hid hp2
                have Hm1 := Lib.hid hm1
                have Hm2 := Lib.hid hm2
                clear hp2 hm1 hm2
                go_wp2_with fail
                have ht : Tail X B cb eb bw bo n pb po pend ps out w ps.length (some ⟨pb, po, none⟩) ((w2.setCell ⟨cb, 0, none⟩ .nilIface).setCell ⟨cb, 6, none⟩ (.int .i64 0)) := by
                  have hS : Fr (· = cb) w2 ((w2.setCell ⟨cb, 0, none⟩ .nilIface).setCell ⟨cb, 6, none⟩ (.int .i64 0)) :=
                    Fr.trans (S := (· = cb)) (T := (· = cb)) (Fr.setCell ⟨cb, 0, none⟩ .nilIface rfl) (Fr.setCell ⟨cb, 6, none⟩ (.int .i64 0) rfl) (fun _ _ h => h)
                  refine ⟨hi, fun h => absurd h (by omega), by have := HN.out; omega, ?_, ?_, ?_⟩
                  · obtain ⟨cs2, k1, k2⟩ := Hp2.out
                    exact ⟨_, Lib.heap_setCell_same (Lib.heap_setCell_same k1 _) _, k2.err.zero⟩
                  · have := Hm1.out.fr hS (fun j h => by rw [h]; exact hXc)
                    have e : (pend ++ ps).take (pend.length + ps.length) = src := by rw [Hsrc.out, List.take_append, List.take_of_length_le (by omega)]; simp
                    rw [e, show n + (pend.length + ps.length) / 3 * 4 = n + 4 from by have := HN.out; omega]
                    exact this
                  · have f1 : Fr (fun j => j = cb ∨ ¬ X j) w w1.drew := (Hfr1.out.mono (T := fun j => j = cb ∨ ¬ X j) (fun _ _ h => .inl h)).trans (Fr.none Fr.drew) (fun _ _ h => h)
                    have f2 : Fr (fun j => j = cb ∨ ¬ X j) w1.drew w2 := Hm2.out.mono (fun _ _ h => .inr h)
                    exact (f1.trans f2 (fun _ _ h => h)).trans hS (fun _ _ h => .inl h)
                go_meet
                exact ⟨ps.length, some ⟨pb, po, none⟩, by rw [hci, Nat.sub_self], rfl, rfl, ht⟩
              · go_wp2_with fail
                go_region_held3 (fun w' => w'.cell? ⟨cb, 1, none⟩ = some (.pointer (some ⟨eb, 0, none⟩))) (assumption) (first | (go_at_call 101; refine (encode_len cb 7 1024 cb 3 3 3 eb 96 src cs0 _ (by exact Hb0.out) (Hen0.out.fr (Fr.drew (S := fun _ => False)) (fun h => h)) hec (by exact Hat0.out) (.inr (by omega)) Hl.out (by omega) (by omega) (by omega) (by rw [Hb1.out]; omega) (by omega) (by rw [hsz0]; omega) (by omega)).mono ?_; rintro e w1 ⟨rfl, cs1, hk1, hk2, hk3⟩; have hcs1 := Hcs0.out.spliced hk2; have hc1 : w1.cell? ⟨cb, 1, none⟩ = some (.pointer (some ⟨eb, 0, none⟩)) := by rw [cell_of_row _ _ _ _ _ _ hk1]; exact hcs1.2.2.1))
                have hat1 := spliced_at hk1 hk2
                obtain ⟨g0, g1, g2, g6, gz, glt⟩ := Pend.cells ⟨cs1, hk1, hcs1⟩
                have hfr1 : Fr (· = cb) w w1 := (HF.out.fr.trans (T := (· = cb)) Fr.drew (fun _ _ h => h)).trans (T := (· = cb)) hk3 (fun _ _ h => h)
                have hch1 := Hch.out.fr hfr1 (fun k h => by rw [h]; exact hXc)
                have Hat1 := Lib.hid hat1
                have Hfr1 := Lib.hid hfr1
                have Hch1 := Lib.hid hch1
                have hp1 : Pend cb eb bw src w1.drew := ⟨cs1, hk1, hcs1⟩
                have Hp1 := Lib.hid hp1
                clear hat1 hfr1 hch1 hk2 hk3 hcs1 hk1 hc1 hp1
                go_wp2_with fail
                have gz0 := gz 0
                have hme := fun F v w => method86 F v w
                have hna := fun F v w => nil_ahead86 F v w
                go_region_held3 (fun w' => w'.cell? ⟨cb, 2, none⟩ = some (.iface 86 (.func (.func 33) #[.pointer (some ⟨bw, 0, none⟩)] #[])) ∧ w'.frozen? ⟨cb, 0, none⟩ = false) (first | (constructor <;> assumption) | exact held_store (by constructor <;> assumption)) (first | (go_at_call 98; refine (wfunc_len X B cb bw bo n cb 7 1024 4 (b64 src) out _ (Hch1.out.fr (Fr.drew (S := fun _ => False)) (fun _ h => h.elim)) (by exact Hat1.out) hXc Hb1.out (by omega) (by omega) (by omega) (by omega) (by omega) (by omega)).mono ?_; rintro e w2 ⟨rfl, hm1, hm2⟩; have hp2 := Hp1.out.fr hm2 (fun h => h hXc); obtain ⟨_, _, j2, _, jz, _⟩ := hp2.cells; have jz0 := jz 0))
                have hfr2 := hm2
                have Hp2 := Lib.hid hp2
                have Hm1 := Lib.hid hm1
                have Hm2 := Lib.hid hm2
                clear hp2 hm1 hm2
                go_wp2_with fail
                have ht : Tail X B cb eb bw bo n pb po pend ps out w ps.length (some ⟨pb, po + ps.length, none⟩) ((w2.setCell ⟨cb, 0, none⟩ .nilIface).setCell ⟨cb, 6, none⟩ (.int .i64 0)) := by
                  have hS : Fr (· = cb) w2 ((w2.setCell ⟨cb, 0, none⟩ .nilIface).setCell ⟨cb, 6, none⟩ (.int .i64 0)) :=
                    Fr.trans (S := (· = cb)) (T := (· = cb)) (Fr.setCell ⟨cb, 0, none⟩ .nilIface rfl) (Fr.setCell ⟨cb, 6, none⟩ (.int .i64 0) rfl) (fun _ _ h => h)
                  refine ⟨hi, fun h => absurd h (by omega), by have := HN.out; omega, ?_, ?_, ?_⟩
                  · obtain ⟨cs2, k1, k2⟩ := Hp2.out
                    exact ⟨_, Lib.heap_setCell_same (Lib.heap_setCell_same k1 _) _, k2.err.zero⟩
                  · have := Hm1.out.fr hS (fun j h => by rw [h]; exact hXc)
                    have e : (pend ++ ps).take (pend.length + ps.length) = src := by rw [Hsrc.out, List.take_append, List.take_of_length_le (by omega)]; simp
                    rw [e, show n + (pend.length + ps.length) / 3 * 4 = n + 4 from by have := HN.out; omega]
                    exact this
                  · have f1 : Fr (fun j => j = cb ∨ ¬ X j) w w1.drew := (Hfr1.out.mono (T := fun j => j = cb ∨ ¬ X j) (fun _ _ h => .inl h)).trans (Fr.none Fr.drew) (fun _ _ h => h)
                    have f2 : Fr (fun j => j = cb ∨ ¬ X j) w1.drew w2 := Hm2.out.mono (fun _ _ h => .inr h)
                    exact (f1.trans f2 (fun _ _ h => h)).trans hS (fun _ _ h => .inl h)
                go_meet
                exact ⟨ps.length, some ⟨pb, po + ps.length, none⟩, by rw [Nat.sub_self], rfl, rfl, ht⟩
  case rest =>
    obtain ⟨k0, a0, rfl, rfl, rfl, ht⟩ := hcut
    have Ht := Lib.hid ht
    clear ht
    go_wp2_with fail
    go_loopw [1, 4, 5, 7] (fun p1 v4 v5 _ wr => ∃ k a, p1 = .slice a (ps.length - k) (c - k) ∧ v4 = .int .i64 (k : Nat) ∧ v5 = .nilIface ∧ Tail X B cb eb bw bo n pb po pend ps out w k a wr) (fun p1 _ _ _ _ => match p1 with | .slice _ l _ => l | _ => 0)
    case atStart => exact ⟨k0, _, rfl, rfl, rfl, Ht.out⟩
    case round =>
      obtain ⟨k, a, rfl, rfl, rfl, hT⟩ := hrel
      have hk := hT.le
      have hA := hT.addr
      have hdiv := hT.div
      obtain ⟨M, hM⟩ : ∃ M, M = ps.length - k := ⟨_, rfl⟩
      obtain ⟨cM, hcM⟩ : ∃ M, M = c - k := ⟨_, rfl⟩
      rw [← hM, ← hcM]
      have hMc : M ≤ cM := by omega
      have hMb : M ≤ 5000 := by omega
      have hcMb : cM ≤ 9223372036854775807 := by omega
      obtain ⟨cs5, hb5, hcs5⟩ := hT.waits
      have hsz5 := hcs5.1
      have hen5 := He.out.fr hT.fr (by rintro (h | h); exact hec h; exact h hXe)
      have hat5 := (Hps.out.fr hT.fr (by rintro (h | h); exact hpc h; exact h hXp))
      obtain ⟨e0, e1, e2, e6, ez, elt⟩ := hT.waits.cells
      have ez0 := ez 0
      have hbound := hT.bound hpl hL2 hout
      obtain ⟨L0, hL0⟩ : ∃ L0, L0 = n + (pend.length + k) / 3 * 4 := ⟨_, rfl⟩
      have hL0b : L0 ≤ 100000 := by omega
      obtain ⟨OUT, hOUT⟩ : ∃ O, O = out ++ wrap n (b64 ((pend ++ ps).take (pend.length + k))) := ⟨_, rfl⟩
      have hch5 := hT.chain
      rw [← hL0, ← hOUT] at hch5
      rw [← hOUT] at hbound
      have HT := Lib.hid hT
      have HM := Lib.hid hM
      have HcM := Lib.hid hcM
      have Hb5 := Lib.hid hb5
      have Hcs5 := Lib.hid hcs5
      have Hen5 := Lib.hid hen5
      have Hat5 := Lib.hid hat5
      have Hch5 := Lib.hid hch5
      have HL0 := Lib.hid hL0
      have HOUT := Lib.hid hOUT
      have HA := Lib.hid hA
      clear hT hM hcM hb5 hcs5 hen5 hat5 hch5 hL0 hOUT hA
      by_cases hbig : 3 ≤ M
      · obtain ⟨m, hm⟩ : ∃ m, m = min 768 (M - M % 3) := ⟨_, rfl⟩
        have hm1 : m ≤ 768 := by omega
        have hm2 : m ≤ M := by omega
        have hm3 : 3 ≤ m := by omega
        have hm4 : m % 3 = 0 := by omega
        obtain ⟨M4, hM4⟩ : ∃ q, q = m / 3 * 4 := ⟨_, rfl⟩
        have hqE : (m : Int) / 3 * 4 = (M4 : Int) := by omega
        have i1 : (M4 : Int) ≤ 1024 := by omega
        have hqW3 : IntKind.i64.wrap (M4 : Int) = (M4 : Int) := wrap_i64_of _ (by omega) (by omega)
        have hqW1 : IntKind.i64.wrap ((m : Int) / 3) = (m : Int) / 3 := wrap_i64_of _ (by omega) (by omega)
        have hqW2 : IntKind.i64.wrap ((m : Int) / 3 * 4) = (M4 : Int) := by rw [hqE]; exact wrap_i64_of _ (by omega) (by omega)
        have i2 : (0 : Int) ≤ (M4 : Int) := by omega
        have i3 : (m : Int) ≤ (cM : Int) := by omega
        have i4 : (0 : Int) ≤ (m : Int) := by omega
        have hM4b : M4 ≤ 1024 := by omega
        have hM4p : 1 ≤ M4 := by omega
        obtain rfl := HA.out (by have := HM.out; omega)
        obtain ⟨src, hsrc⟩ : ∃ src, src = (ps.drop k).take m := ⟨_, rfl⟩
        have hl : src.length = m := by rw [hsrc, List.length_take, List.length_drop, ← HM.out]; omega
        have hb1 : (b64 src).length = M4 := by rw [b64_length, hl]; omega
        have hat6 := Hat5.out.drop k m
        rw [← hsrc] at hat6
        have Hl := Lib.hid hl
        have Hb1 := Lib.hid hb1
        have Hat6 := Lib.hid hat6
        have Hsrc := Lib.hid hsrc
        have Hm4 := Lib.hid hm4
        have HM4 := Lib.hid hM4
        clear hl hb1 hat6 hsrc hm4 hM4
        have Hm := Lib.hid hm
        clear hm
        go_upto_if 114 with fail
        go_cut [7] (fun v7 wx => v7 = .int .i64 (m : Nat) ∧ wx = wr)
        case first =>
          by_cases h7 : M < 768
          · have hmE : (M : Int) - (M : Int) % 3 = (m : Int) := by have := Hm.out; omega
            go_wp2_with fail
            go_meet
            exact ⟨rfl, rfl⟩
          · obtain rfl : m = 768 := by have := Hm.out; omega
            go_wp2_with fail
            go_meet
            exact ⟨rfl, rfl⟩
        case rest =>
          obtain ⟨rfl, hwc⟩ := hcut
          have hwc2 := hwc.symm
          clear hwc
          subst hwc2
          go_wp2_with fail
          go_region_held3 (fun w' => w'.cell? ⟨cb, 1, none⟩ = some (.pointer (some ⟨eb, 0, none⟩))) (assumption) (first | (go_at_call 101; refine (encode_len cb 7 1024 pb _ _ _ eb 96 src cs5 _ (by exact Hb5.out) (Hen5.out.fr (Fr.drew (S := fun _ => False)) (fun h => h)) hec (by exact Hat6.out) (.inl hpc) Hl.out (by omega) (by omega) (by omega) (by rw [Hb1.out]; omega) (by omega) (by rw [hsz5]; omega) (by omega)).mono ?_; rintro e w1 ⟨rfl, cs1, hk1, hk2, hk3⟩; have hcs1 := Hcs5.out.spliced hk2; have hc1 : w1.cell? ⟨cb, 1, none⟩ = some (.pointer (some ⟨eb, 0, none⟩)) := by rw [cell_of_row _ _ _ _ _ _ hk1]; exact hcs1.2.2.1))
          have hat1 := spliced_at hk1 hk2
          obtain ⟨g0, g1, g2, g6, gz, glt⟩ := Pend.cells ⟨cs1, hk1, hcs1⟩
          have hfr1 : Fr (· = cb) wr w1 := Fr.trans (S := (· = cb)) (T := (· = cb)) Fr.drew hk3 (fun _ _ h => h)
          have hch1 := Hch5.out.fr hfr1 (fun k h => by rw [h]; exact hXc)
          have hp1 : Pend cb eb bw [] w1.drew := ⟨cs1, hk1, hcs1⟩
          have Hat1 := Lib.hid hat1
          have Hfr1 := Lib.hid hfr1
          have Hch1 := Lib.hid hch1
          have Hp1 := Lib.hid hp1
          clear hat1 hfr1 hch1 hk2 hk3 hcs1 hk1 hc1 hp1
          go_wp2_with fail
          have gz0 := gz 0
          have hme := fun F v w => method86 F v w
          have hna := fun F v w => nil_ahead86 F v w
          go_region_held3 (fun w' => w'.cell? ⟨cb, 2, none⟩ = some (.iface 86 (.func (.func 33) #[.pointer (some ⟨bw, 0, none⟩)] #[])) ∧ w'.frozen? ⟨cb, 0, none⟩ = false) (first | (constructor <;> assumption) | exact held_store (by constructor <;> assumption)) (first | (go_at_call 98; refine (wfunc_len X B cb bw bo L0 cb 7 1024 _ (b64 src) OUT _ (Hch1.out.fr (Fr.drew (S := fun _ => False)) (fun _ h => h.elim)) (by exact Hat1.out) hXc Hb1.out (by omega) (by omega) (by omega) (by omega) hL0b hbound).mono ?_; rintro e w2 ⟨rfl, hm1, hm2⟩; have hp2 := Hp1.out.fr hm2 (fun h => h hXc); obtain ⟨_, _, j2, _, jz, _⟩ := hp2.cells; have jz0 := jz 0))
          have Hp2 := Lib.hid hp2
          have Hm1 := Lib.hid hm1
          have Hm2 := Lib.hid hm2
          clear hp2 hm1 hm2 j2 jz0
          go_wp2_with fail
          have e1 : M - m = ps.length - (k + m) := by have := HM.out; omega
          have e2 : cM - m = c - (k + m) := by have := HcM.out; omega
          have hS : Fr (· = cb) w2 (w2.setCell ⟨cb, 0, none⟩ .nilIface) := Fr.setCell ⟨cb, 0, none⟩ .nilIface rfl
          refine ⟨⟨k + m, (if cM = m then some ⟨pb, po + k, none⟩ else some ⟨pb, po + k + m, none⟩), by rw [e1, e2], by go_num, rfl, tail_next HT.out (by have := HM.out; omega) Hm4.out HM4.out HL0.out ?_ ?_ ?_ ?_⟩, ?_⟩
          · intro h
            rw [if_neg (by have := HM.out; have := HcM.out; omega), Nat.add_assoc]
          · obtain ⟨cs2, k1, k2⟩ := Hp2.out
            exact ⟨_, Lib.heap_setCell_same k1 _, k2.err⟩
          · rw [← HOUT.out, ← Hsrc.out]
            exact Hm1.out.fr hS (fun j h => by rw [h]; exact hXc)
          · have f1 : Fr (fun j => j = cb ∨ ¬ X j) wr w1.drew := (Hfr1.out.mono (T := fun j => j = cb ∨ ¬ X j) (fun _ _ h => .inl h)).trans (Fr.none Fr.drew) (fun _ _ h => h)
            have f2 : Fr (fun j => j = cb ∨ ¬ X j) w1.drew w2 := Hm2.out.mono (fun _ _ h => .inr h)
            exact (f1.trans f2 (fun _ _ h => h)).trans hS (fun _ _ h => .inl h)
          · show M - m < M
            omega
      · have hl7 : (Lib.byteCells (ps.drop k)).length = M := by rw [byteCells_length, List.length_drop, ← HM.out]
        have hat7 : 0 < M → ∃ ad, a = some ad ∧ ∀ j v, (Lib.byteCells (ps.drop k))[j]? = some v → wr.cell? (ad.add j) = some v := fun h => by
          refine ⟨_, HA.out (by have := HM.out; omega), ?_⟩
          have := Hat5.out.drop k M
          rw [List.take_of_length_le (by rw [List.length_drop, ← HM.out]; exact Nat.le_refl _)] at this
          exact this
        have hkM : (k : Int) + (M : Int) = (ps.length : Int) := by have := HM.out; omega
        have hd3 : (ps.drop k).length ≤ 3 := by rw [List.length_drop, ← HM.out]; omega
        have Hl7 := Lib.hid hl7
        have Hat7 := Lib.hid hat7
        have Hd3 := Lib.hid hd3
        clear hl7 hat7 hd3
        go_wp2_with ((with_reducible refine wpList_copy_fr rfl _ _ 22 22 rfl 5 Tryd.underlying22 size5 _ _ _ _ _ _ rfl rfl cb 3 M cs5 96 (by exact Hb5.out) (Lib.byteCells (ps.drop k)) Hl7.out (Nat.min_eq_left (by omega)).symm (fun h => ⟨rfl, Hat7.out h⟩) (by rw [hsz5]; omega) (row_oneCell _) ?_); intro w5 h5 f5; have q6 : w5.frozen? ⟨cb, 6, none⟩ = false := frozen_of_row _ _ _ _ _ h5.out; have q6c : w5.cell? ⟨cb, 6, none⟩ = some (.int .i64 0) := by rw [cell_of_row _ _ _ _ _ _ h5.out]; exact splice_six Hcs5.out _ Hd3.out)
        go_ret2
        have hq : (pend ++ ps).length / 3 * 3 = pend.length + k := by rw [List.length_append]; have := HM.out; have := HT.out.le; omega
        have hdr : (pend ++ ps).drop (pend.length + k) = ps.drop k := by rw [List.drop_append]; simp
        have hfin : Fr (· = cb) wr (w5.setCell ⟨cb, 6, none⟩ (.int .i64 M)) := f5.out.trans (T := (· = cb)) (Fr.setCell ⟨cb, 6, none⟩ (.int .i64 M) rfl) (fun _ _ h => h)
        refine ⟨rfl, pend.length + k, hq.symm, ?_, ?_, HT.out.fr.trans hfin (fun _ _ h => .inl h)⟩
        · rw [hdr]
          refine ⟨_, Lib.heap_setCell_same h5.out _, ?_⟩
          have := Hcs5.out.rest (ps.drop k) Hd3.out
          rw [List.length_drop, ← HM.out] at this
          exact this
        · have hch6 := Hch5.out.fr hfin (fun j h => by rw [h]; exact hXc)
          rw [HL0.out, HOUT.out] at hch6
          rw [show (pend.length + k) / 3 * 4 = (pend.length + k) / 3 * 4 from rfl]
          exact hch6
end Go.Proofs.YtempflfhlbojgaaDoor
