/-
  The walks of EncodedLen and of base64's encoder.Close.
-/
import Derived.Test.YtempflfhlbojgaaDoorCodL
namespace Go.Proofs.YtempflfhlbojgaaDoor
open Go.RowKit

set_option maxHeartbeats 4000000 in
set_option maxRecDepth 100000 in
theorem encodedLen_at (eb n : Nat) (w : World) (he : Enc eb w) (hn : n ≤ 100000) : Calls Tryd.prog 102 #[.pointer (some ⟨eb, 0, none⟩), .int .i64 n] w fun e w' => e = .returned (.int .i64 ((n + 2) / 3 * 4 : Nat)) ∧ w' = w := by
  have hp := he.pad
  go_enter Tryd.func102, Tryd.ntmps102
  go_wp2_with fail
  go_ret
  refine ⟨?_, rfl⟩
  simp

theorem encodedLen_few (eb : Nat) (n : Int) (w : World) (he : Enc eb w) (hn : n = 1 ∨ n = 2) : Calls Tryd.prog 102 #[.pointer (some ⟨eb, 0, none⟩), .int .i64 n] w fun e w' => e = .returned (.int .i64 4) ∧ w' = w := by
  rcases hn with rfl | rfl
  · exact encodedLen_at eb 1 w he (by omega)
  · exact encodedLen_at eb 2 w he (by omega)

theorem held_store3 {w : World} {cb : Nat} {v v1 v6 x : Value} (h : w.cell? ⟨cb, 2, none⟩ = some v ∧ w.cell? ⟨cb, 1, none⟩ = some v1 ∧ w.cell? ⟨cb, 6, none⟩ = some v6 ∧ w.frozen? ⟨cb, 0, none⟩ = false) :
    (w.setCell ⟨cb, 0, none⟩ x).cell? ⟨cb, 2, none⟩ = some v ∧ (w.setCell ⟨cb, 0, none⟩ x).cell? ⟨cb, 1, none⟩ = some v1 ∧ (w.setCell ⟨cb, 0, none⟩ x).cell? ⟨cb, 6, none⟩ = some v6 ∧ (w.setCell ⟨cb, 0, none⟩ x).frozen? ⟨cb, 0, none⟩ = false :=
  ⟨(World.cell?_setCell_other (w := w) (v := x) (a := ⟨cb, 0, none⟩) (b := ⟨cb, 2, none⟩) (by intro e; injection e with _ e2; omega)).trans h.1,
   (World.cell?_setCell_other (w := w) (v := x) (a := ⟨cb, 0, none⟩) (b := ⟨cb, 1, none⟩) (by intro e; injection e with _ e2; omega)).trans h.2.1,
   (World.cell?_setCell_other (w := w) (v := x) (a := ⟨cb, 0, none⟩) (b := ⟨cb, 6, none⟩) (by intro e; injection e with _ e2; omega)).trans h.2.2.1,
   by rw [World.frozen?_setCell]; exact h.2.2.2⟩

set_option maxHeartbeats 4000000 in
set_option maxRecDepth 100000 in
theorem coder_close (X : Nat → Prop) (B cb eb bw bo n : Nat) (pend out : List UInt8) (w : World) (hp : Pend cb eb bw pend w) (hpl : pend.length ≤ 2) (hch : Chain X B cb bw bo n out w) (he : Enc eb w)
    (hXc : X cb) (_hXe : X eb) (hec : eb ≠ cb) (hn : n ≤ 50000) (hout : out.length ≤ 100000) :
    Calls Tryd.prog 99 #[.pointer (some ⟨cb, 0, none⟩)] w fun e w' => e = .returned .nilIface ∧ Chain X B cb bw bo (n + (b64 pend).length) (out ++ wrap n (b64 pend)) w' ∧ Fr (fun k => k = cb ∨ ¬ X k) w w' := by
  obtain ⟨c0, c1, c2, c6, fz, hlt⟩ := hp.cells
  obtain ⟨cs0, hb0, hcs0⟩ := hp
  have hat0 := Pend.at ⟨cs0, hb0, hcs0⟩
  have hsz0 := hcs0.1
  have Hb0 := Lib.hid hb0
  have Hcs0 := Lib.hid hcs0
  have Hat0 := Lib.hid hat0
  have Hch := Lib.hid hch
  have He := Lib.hid he
  clear hb0 hcs0 hat0 hch he
  by_cases h0 : pend.length = 0
  · obtain rfl : pend = [] := List.eq_nil_of_length_eq_zero h0
    have c6' : w.cell? ⟨cb, 6, none⟩ = some (.int .i64 0) := c6
    clear c6
    go_enter Tryd.func99, Tryd.ntmps99
    go_wp2_with fail
    go_ret
    refine ⟨rfl, ?_, Fr.refl _ _⟩
    have := Hch.out
    simpa [b64, wrap] using this
  · have hk : (pend.length : Int) = 1 ∨ (pend.length : Int) = 2 := by omega
    have hkN : pend.length = 1 ∨ pend.length = 2 := by omega
    have hb1 : (b64 pend).length = 4 := by rw [b64_length]; omega
    have Hb1 := Lib.hid hb1
    clear hb1
    obtain ⟨N, hN⟩ : ∃ N, N = pend.length := ⟨_, rfl⟩
    rw [← hN] at c6 hk
    have hN3 : N ≤ 3 := by omega
    have hN1 : 1 ≤ N := by omega
    have i1 : (N : Int) ≤ 3 := by omega
    have i2 : (0 : Int) ≤ (N : Int) := by omega
    have Hk := Lib.hid hk
    have HN := Lib.hid hN
    clear hk hN h0
    clear hkN
    go_enter Tryd.func99, Tryd.ntmps99
    go_wp2_with fail
    go_region_held3 (fun w' => w'.cell? ⟨cb, 1, none⟩ = some (.pointer (some ⟨eb, 0, none⟩)) ∧ w'.cell? ⟨cb, 6, none⟩ = some (.int .i64 N)) (constructor <;> assumption) (first | (go_at_call 101; refine (encode_len cb 7 1024 cb 3 3 N eb 96 pend cs0 _ (by exact Hb0.out) (He.out.fr (Fr.drew (S := fun _ => False)) (fun h => h)) hec (by exact Hat0.out) (.inr (by omega)) HN.out.symm (by omega) (by omega) (by omega) (by rw [Hb1.out]; omega) (by omega) (by rw [hsz0]; omega) (by omega)).mono ?_; rintro e w1 ⟨rfl, cs1, hk1, hk2, hk3⟩; have hcs1 := Hcs0.out.spliced hk2; have hc1 : w1.cell? ⟨cb, 1, none⟩ = some (.pointer (some ⟨eb, 0, none⟩)) := (by rw [cell_of_row _ _ _ _ _ _ hk1]; exact hcs1.2.2.1); have hc6 : w1.cell? ⟨cb, 6, none⟩ = some (.int .i64 N) := (cell_of_row _ _ _ _ _ _ hk1).trans (by have q := hcs1.2.2.2.2.2.1; rw [← HN.out] at q; exact q)))
    have hat1 := spliced_at hk1 hk2
    obtain ⟨g0, g1, g2, g6, gz, glt⟩ := Pend.cells ⟨cs1, hk1, hcs1⟩
    have hfr1 : Fr (· = cb) w w1 := Fr.trans (S := (· = cb)) (T := (· = cb)) Fr.drew hk3 (fun _ _ h => h)
    have hch1 := Hch.out.fr hfr1 (fun k h => by rw [h]; exact hXc)
    have hen1 := (He.out.fr hfr1 hec).fr (Fr.drew (S := fun _ => False)) (fun h => h)
    have hp1 : Pend cb eb bw pend w1.drew := ⟨cs1, hk1, hcs1⟩
    have Hat1 := Lib.hid hat1
    have Hfr1 := Lib.hid hfr1
    have Hch1 := Lib.hid hch1
    have Hp1 := Lib.hid hp1
    have Hen1 := Lib.hid hen1
    clear hat1 hfr1 hch1 hk2 hk3 hcs1 hk1 hp1 hen1 g6
    go_wp2_with fail
    have gz0 := gz 0
    have hme := fun F v w => method86 F v w
    have hna := fun F v w => nil_ahead86 F v w
    go_region_held3 (fun w' => w'.cell? ⟨cb, 2, none⟩ = some (.iface 86 (.func (.func 33) #[.pointer (some ⟨bw, 0, none⟩)] #[])) ∧ w'.cell? ⟨cb, 1, none⟩ = some (.pointer (some ⟨eb, 0, none⟩)) ∧ w'.cell? ⟨cb, 6, none⟩ = some (.int .i64 N) ∧ w'.frozen? ⟨cb, 0, none⟩ = false) (first | (refine ⟨?_, ?_, ?_, ?_⟩ <;> assumption) | exact held_store3 (by refine ⟨?_, ?_, ?_, ?_⟩ <;> assumption))
      (first
        | (go_at_call 102; refine (encodedLen_few eb _ _ Hen1.out Hk.out).mono ?_; rintro e w2 ⟨rfl, hw2⟩; obtain rfl := hw2)
        | (go_at_call 98; refine (wfunc_len X B cb bw bo n cb 7 1024 _ (b64 pend) out _ (Hch1.out.fr (Fr.drew (S := fun _ => False)) (fun _ h => h.elim)) (by exact Hat1.out) hXc Hb1.out (by omega) (by omega) (by omega) (by omega) (by omega) (by omega)).mono ?_; rintro e w2 ⟨rfl, hm1, hm2⟩; have hp2 := Hp1.out.fr hm2 (fun h => h hXc); obtain ⟨_, j1, j2, j6, jz, _⟩ := hp2.cells; rw [← HN.out] at j6; have jz0 := jz 0))
    have Hp2 := Lib.hid hp2
    have Hm1 := Lib.hid hm1
    have Hm2 := Lib.hid hm2
    clear hp2 hm1 hm2
    go_wp2_with fail
    go_ret
    have hS : Fr (· = cb) w2 ((w2.setCell ⟨cb, 0, none⟩ .nilIface).setCell ⟨cb, 6, none⟩ (.int .i64 0)) :=
      Fr.trans (S := (· = cb)) (T := (· = cb)) (Fr.setCell ⟨cb, 0, none⟩ .nilIface rfl) (Fr.setCell ⟨cb, 6, none⟩ (.int .i64 0) rfl) (fun _ _ h => h)
    refine ⟨rfl, ?_, ?_⟩
    · rw [Hb1.out]
      exact Hm1.out.fr hS (fun j h => by rw [h]; exact hXc)
    · have f1 : Fr (fun j => j = cb ∨ ¬ X j) w w1.drew := (Hfr1.out.mono (T := fun j => j = cb ∨ ¬ X j) (fun _ _ h => .inl h)).trans (Fr.none Fr.drew) (fun _ _ h => h)
      have f2 : Fr (fun j => j = cb ∨ ¬ X j) w1.drew w2 := Hm2.out.mono (fun _ _ h => .inr h)
      exact (f1.trans f2 (fun _ _ h => h)).trans hS (fun _ _ h => .inl h)
end Go.Proofs.YtempflfhlbojgaaDoor
