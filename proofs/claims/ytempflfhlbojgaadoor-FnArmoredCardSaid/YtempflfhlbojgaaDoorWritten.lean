/-
  The walk of impl.written: the bytes go piece by piece to the armored writer, which is closed then.
-/
import Derived.Test.YtempflfhlbojgaaDoorArmC
import Derived.Deep.DeepCutAuto
namespace Go.Proofs.YtempflfhlbojgaaDoor
open Go.RowKit

theorem nil_ahead74w (F : Nat) (a : Addr) (w : World) : (nilAhead (F + 1) 74 (.pointer (some a)) "Write").run Tryd.prog w = .ok (some false) w := by kernel_rfl
theorem method74w (F : Nat) (a : Addr) (w : World) : (method (F + 1) 74 (.pointer (some a)) "Write").run Tryd.prog w = .ok (92, .pointer (some a)) w := by kernel_rfl
theorem nil_ahead74c (F : Nat) (a : Addr) (w : World) : (nilAhead (F + 1) 74 (.pointer (some a)) "Close").run Tryd.prog w = .ok (some false) w := by kernel_rfl
theorem method74c (F : Nat) (a : Addr) (w : World) : (method (F + 1) 74 (.pointer (some a)) "Close").run Tryd.prog w = .ok (91, .pointer (some a)) w := by kernel_rfl

theorem Sys.fr {Y S : Nat → Prop} {B eb cb bw bo ab : Nat} {T : List UInt8} {st cl : Bool} {w w' : World} (h : Sys Y B eb cb bw bo ab T st cl w) (hf : Fr S w w') (hS : ∀ k, S k → Y k) : Sys Y B eb cb bw bo ab T st cl w' :=
  ⟨h.enc.fr hf (fun e => (h.sep _ (hS _ e)).1 rfl), h.arm.fr hf (fun e => (h.sep _ (hS _ e)).2.2 rfl), h.pend.fr hf (fun e => (h.sep _ (hS _ e)).2.1 rfl), h.chain.fr hf (fun k e => .inl (hS k e)), h.ne1, h.ne2, h.ne3, h.sep, h.nst⟩

/-- k bytes are written. -/
structure Wr (Y : Nat → Prop) (B eb cb bw bo ab pb po : Nat) (ds : List UInt8) (w : World) (k : Nat) (a : Option Addr) (wr : World) : Prop where
  le : k ≤ ds.length
  addr : k < ds.length → a = some ⟨pb, po + k, none⟩
  sys : ∃ st, Sys Y B eb cb bw bo ab (ds.take k) st false wr
  fr : Fr (fun k => ¬ Y k) w wr

set_option maxHeartbeats 4000000 in
set_option maxRecDepth 100000 in
theorem written_at (Y : Nat → Prop) (B eb cb bw bo ab pb po c p : Nat) (a0 : Option Addr) (ds : List UInt8) (w : World) (h : Sys Y B eb cb bw bo ab [] false false w) (ha : 0 < ds.length → a0 = some ⟨pb, po, none⟩ ∧ Y pb ∧ At w ⟨pb, po, none⟩ ds) (hL : ds.length ≤ 5000) (hc : ds.length ≤ c) (hc2 : c ≤ 9223372036854775807) (hp : p ≤ 10000) :
    Calls Tryd.prog 22 #[.iface 74 (.pointer (some ⟨ab, 0, none⟩)), .slice a0 ds.length c, .int .i64 p] w fun e w' => e = .returned .nilIface ∧ (∃ n, Chain Y B cb bw bo n (armorText ds) w') ∧ Fr (fun k => ¬ Y k) w w' := by
  have hna := fun F a w => nil_ahead74w F a w
  have hme := fun F a w => method74w F a w
  have hnc := fun F a w => nil_ahead74c F a w
  have hmc := fun F a w => method74c F a w
  have hw0 : Wr Y B eb cb bw bo ab pb po ds w 0 a0 w := ⟨Nat.zero_le _, fun h => by simpa using (ha h).1, ⟨false, by simpa using h⟩, Fr.refl _ _⟩
  have Hw0 := Lib.hid hw0
  have Ha := Lib.hid ha
  clear h hw0 ha
  obtain ⟨P, hP⟩ : ∃ P, P = if p = 0 then ds.length else p := ⟨_, rfl⟩
  have hPb : P ≤ 10000 := by rw [hP]; split <;> omega
  have hP1 : 0 < ds.length → 1 ≤ P := by rw [hP]; split <;> omega
  have HP := Lib.hid hP
  clear hP
  go_enter Tryd.func22, Tryd.ntmps22
  go_upto_if 11 with fail
  go_cut [2] (fun v2 wx => v2 = .int .i64 (P : Nat) ∧ wx = w)
  case first =>
    by_cases h0 : p = 0
    · have e : P = ds.length := by rw [HP.out, if_pos h0]
      subst h0
      go_wp2_with fail
      go_meet
      exact ⟨by rw [e], rfl⟩
    · have e : P = p := by rw [HP.out, if_neg h0]
      go_wp2_with fail
      go_meet
      exact ⟨by rw [e], rfl⟩
  case rest =>
    obtain ⟨rfl, hwc⟩ := hcut
    have hwc2 := hwc.symm
    clear hwc
    subst hwc2
    go_wp2_with fail
    go_loopw [1, 7, 8, 9] (fun p1 _ _ _ wr => ∃ k a, p1 = .slice a (ds.length - k) (c - k) ∧ Wr Y B eb cb bw bo ab pb po ds w k a wr) (fun p1 _ _ _ _ => match p1 with | .slice _ l _ => l | _ => 0)
    case atStart => exact ⟨0, a0, rfl, Hw0.out⟩
    case round =>
      obtain ⟨k, a, rfl, hW⟩ := hrel
      have hk := hW.le
      have hA := hW.addr
      obtain ⟨st, hsys⟩ := hW.sys
      obtain ⟨M, hM⟩ : ∃ M, M = ds.length - k := ⟨_, rfl⟩
      obtain ⟨cM, hcM⟩ : ∃ M, M = c - k := ⟨_, rfl⟩
      rw [← hM, ← hcM]
      have hMc : M ≤ cM := by omega
      have hMb : M ≤ 5000 := by omega
      have hcMb : cM ≤ 9223372036854775807 := by omega
      have HM := Lib.hid hM
      have HcM := Lib.hid hcM
      have HA := Lib.hid hA
      have HW := Lib.hid hW
      have Hsys := Lib.hid hsys
      clear hM hcM hA hW hsys
      by_cases hpos : 0 < M
      · obtain rfl := HA.out (by have := HM.out; omega)
        obtain ⟨t, ht⟩ : ∃ t, t = min P M := ⟨_, rfl⟩
        have hmin : min (P : Int) (M : Int) = (t : Int) := by omega
        have ht1 : 1 ≤ t := by have := HM.out; have := hP1 (by omega); omega
        have ht2 : t ≤ M := by omega
        have i3 : (t : Int) ≤ (cM : Int) := by omega
        have i4 : (0 : Int) ≤ (t : Int) := by omega
        clear ht
        obtain ⟨-, hYp, hat⟩ := Ha.out (by have := HM.out; omega)
        have hat5 := (hat.fr HW.out.fr (fun h => h hYp)).drop k t
        have hl5 : ((ds.drop k).take t).length = t := by rw [List.length_take, List.length_drop, ← HM.out]; omega
        have htk : (ds.take k).length = k := by rw [List.length_take]; omega
        have Hat5 := Lib.hid hat5
        have Hl5 := Lib.hid hl5
        have Htk := Lib.hid htk
        clear hat5 hl5 hat htk
        go_wp2_with fail
        go_region_with (first | (go_at_call 92; refine (arm_write Y B eb cb bw bo ab pb (po + k) cM (ds.take k) ((ds.drop k).take t) st _ (Hsys.out.fr (Fr.drew (S := fun _ => False)) (fun _ h => h.elim)) hYp (by exact Hat5.out) t Hl5.out ht1 (by rw [Htk.out]; have := HM.out; omega) (by omega) hcMb).mono ?_; rintro e w2 ⟨rfl, m1, m2⟩))
        have M1 := Lib.hid m1
        have M2 := Lib.hid m2
        clear m1 m2
        go_wp2_with fail
        have e1 : M - t = ds.length - (k + t) := by have := HM.out; omega
        have e2 : cM - t = c - (k + t) := by have := HcM.out; omega
        refine ⟨⟨k + t, (if cM = t then some ⟨pb, po + k, none⟩ else some ⟨pb, po + k + t, none⟩), by rw [e1, e2], ⟨by have := HM.out; omega, fun h => ?_, ⟨true, ?_⟩, ?_⟩⟩, ?_⟩
        · rw [if_neg (by have := HM.out; omega), Nat.add_assoc]
        · have := M1.out
          rw [← List.take_add] at this
          exact this
        · exact (HW.out.fr.trans (Fr.none Fr.drew) (fun _ _ h => h)).trans M2.out (fun _ _ h => h)
        · show M - t < M
          omega
      · obtain rfl : M = 0 := by omega
        go_wp2_with fail
        refine (arm_close Y B eb cb bw bo ab (ds.take k) st _ Hsys.out (by rw [List.length_take]; omega)).mono ?_
        rintro e w2 ⟨rfl, m1, m2⟩
        have M1 := Lib.hid m1
        have M2 := Lib.hid m2
        clear m1 m2
        go_wp2_with fail
        go_ret
        have hall : ds.take k = ds := List.take_of_length_le (by have := HM.out; omega)
        obtain ⟨n, m1⟩ := M1.out
        rw [hall] at m1
        exact ⟨rfl, ⟨n, m1⟩, HW.out.fr.trans M2.out (fun _ _ h => h)⟩
end Go.Proofs.YtempflfhlbojgaaDoor
