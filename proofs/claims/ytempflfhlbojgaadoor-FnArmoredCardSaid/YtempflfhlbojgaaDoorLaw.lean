/-
  The walk of the law FnArmored.
-/
import Derived.Test.YtempflfhlbojgaaDoorRMs
namespace Go.Proofs.YtempflfhlbojgaaDoor
open Go.RowKit

theorem Holds.fr {w w' : World} {a : Option Addr} {ds : List UInt8} (h : Holds w a ds) (f : Fr (fun _ => False) w w') : Holds w' a ds := by
  rcases h with h | ⟨b, o, e, h⟩
  · exact .inl h
  · exact .inr ⟨b, o, e, fun i hi => f.cell (h i hi) (fun h => h)⟩

theorem str_eq {s : ByteArray} {l : List UInt8} (h : s.data.toList = l) : s = ⟨l.toArray⟩ := by
  subst h
  cases s
  simp

set_option maxHeartbeats 4000000 in
set_option maxRecDepth 100000 in
theorem law_long (a : Option Addr) (n c : Nat) (p : Int) (w : World) (hn : 2147483647 < n) :
    Calls Tryd.prog 4 #[.slice a n c, .int .i64 p] w fun e w' => e = .returned (.bool true) ∧ Fr (fun _ => False) w w' := by
  have i1 : (2147483647 : Int) < (n : Int) := by omega
  go_enter Tryd.func4, Tryd.ntmps4
  go_wp2_with fail
  go_ret
  exact ⟨rfl, Fr.refl _ _⟩

set_option maxHeartbeats 4000000 in
set_option maxRecDepth 100000 in
theorem law_out (a : Option Addr) (n c : Nat) (p : Int) (pE : Addr) (w : World) (hE : w.cell? ⟨0, 0, none⟩ = some (.iface 108 (.pointer (some pE)))) (hn : n ≤ 2147483647) (ho : 5000 < n ∨ p < 0 ∨ 10000 < p) :
    Calls Tryd.prog 4 #[.slice a n c, .int .i64 p] w fun e w' => e = .returned (.bool true) ∧ Fr (fun _ => False) w w' := by
  have i1 : ¬ (2147483647 : Int) < (n : Int) := by omega
  have Key := Lib.hid (armors_at pE w hE)
  clear hE
  by_cases h1 : 5000 < n
  · have i2 : (5000 : Int) < (n : Int) := by omega
    go_enter Tryd.func4, Tryd.ntmps4
    go_wp2_with fail
    refine Key.out.mono ?_
    rintro e w1 ⟨rfl, f⟩
    have F := Lib.hid f
    clear f
    go_wp2_with fail
    go_ret
    exact ⟨rfl, F.out⟩
  · have i2 : ¬ (5000 : Int) < (n : Int) := by omega
    by_cases h2 : p < 0
    · go_enter Tryd.func4, Tryd.ntmps4
      go_wp2_with fail
      refine Key.out.mono ?_
      rintro e w1 ⟨rfl, f⟩
      have F := Lib.hid f
      clear f
      go_wp2_with fail
      go_ret
      exact ⟨rfl, F.out⟩
    · have h3 : 10000 < p := by omega
      go_enter Tryd.func4, Tryd.ntmps4
      go_wp2_with fail
      refine Key.out.mono ?_
      rintro e w1 ⟨rfl, f⟩
      have F := Lib.hid f
      clear f
      go_wp2_with fail
      go_ret
      exact ⟨rfl, F.out⟩

set_option maxHeartbeats 4000000 in
set_option maxRecDepth 100000 in
theorem law_in (a : Option Addr) (pb po c p : Nat) (ds : List UInt8) (pE : Addr) (w : World) (hE : w.cell? ⟨0, 0, none⟩ = some (.iface 108 (.pointer (some pE)))) (ha : 0 < ds.length → a = some ⟨pb, po, none⟩ ∧ At w ⟨pb, po, none⟩ ds) (hL : ds.length ≤ 5000) (hc : ds.length ≤ c) (hc2 : c ≤ 9223372036854775807) (hp : p ≤ 10000) :
    Calls Tryd.prog 4 #[.slice a ds.length c, .int .i64 p] w fun e w' => e = .returned (.bool true) ∧ Fr (fun _ => False) w w' := by
  have Key := Lib.hid (armored_at pb po c p a ds w ha hL hc hc2 hp)
  have i1 : ¬ (2147483647 : Int) < (ds.length : Int) := by omega
  have i2 : ¬ (5000 : Int) < (ds.length : Int) := by omega
  have i3 : ¬ (p : Int) < 0 := by omega
  have i4 : ¬ (10000 : Int) < (p : Int) := by omega
  have HE := Lib.hid hE
  have Ha := Lib.hid ha
  clear hE ha
  go_enter Tryd.func4, Tryd.ntmps4
  go_wp2_with fail
  refine Key.out.mono ?_
  rintro e w1 ⟨g, cap, rfl, at1, f1⟩
  obtain ⟨T, hT⟩ : ∃ T : ByteArray, T = ⟨(armorText ds).toArray⟩ := ⟨_, rfl⟩
  have hk := fun (u : World) (f : Fr (fun _ => False) w1 u) => hT ▸ string_of (at1.fr f (fun h => h)) rfl (c := cap)
  have hk1 := hk w1 (Fr.refl _ _)
  obtain ⟨L, hLL⟩ : ∃ L, L = (armorText ds).length := ⟨_, rfl⟩
  rw [← hLL] at hk hk1 ⊢
  have hE1 := f1.cell HE.out (fun h => h)
  have hh : Holds w1 a ds := by
    by_cases h0 : 0 < ds.length
    · obtain ⟨e1, e2⟩ := Ha.out h0
      exact .inr ⟨_, _, e1, fun i hi => by
        rw [(e2.fr f1 (fun h => h)).cell hi, List.getD, List.getElem?_eq_getElem hi]
        rfl⟩
    · exact .inl (List.eq_nil_of_length_eq_zero (by omega))
  have Hk := Lib.hid hk
  have HE1 := Lib.hid hE1
  have Hh := Lib.hid hh
  have F1 := Lib.hid f1
  have HT := Lib.hid hT
  clear hk hE1 hh f1 hT at1 hLL
  go_wp2_with fail
  go_region_held3 (fun w' => (convert 22 9 (.slice (some ⟨g, 0, none⟩) L cap)).run Tryd.prog w' = .ok (.string T) w') (first | assumption | exact Hk.out _ (Fr.drew))
    (first
      | (go_at_call 5; refine (armors_at pE _ (by exact HE1.out)).mono ?_; rintro e w2 ⟨rfl, f2⟩; have hk2 := Hk.out w2 (Fr.trans (Fr.drew (S := fun _ => False)) f2 (fun _ _ h => h)))
      | (go_at_call 6; refine (armor_any a c ds _ (by omega) (Holds.fr Hh.out (Fr.trans (Fr.drew (S := fun _ => False)) f2 (fun _ _ h => h)))).mono ?_; rintro e w3 ⟨⟨s, rfl, hs⟩, hw3⟩; obtain rfl := hw3))
  have F2 := Lib.hid (Fr.trans (Fr.drew (S := fun _ => False)) f2 (fun _ _ h => h))
  have hst : (T.toList == s.toList) = true := by rw [str_eq hs, HT.out]; simp
  rw [hst]
  clear f2 hk1
  go_wp2_with fail
  go_ret
  exact ⟨rfl, F1.out.trans F2.out (fun _ _ h => h)⟩
end Go.Proofs.YtempflfhlbojgaaDoor
