/-
  The walk of armoredReader.Read, the first time, at the armored "abc".
-/
import Derived.Test.YtempflfhlbojgaaDoorRNw
namespace Go.Proofs.YtempflfhlbojgaaDoor
open Go.RowKit

theorem At.setOther {w : World} {b o : Nat} {ds : List UInt8} (h : At w ⟨b, o, none⟩ ds) (k : Nat) (v : Value) (hk : k < o ∨ o + ds.length ≤ k) : At (w.setCell ⟨b, k, none⟩ v) ⟨b, o, none⟩ ds := by
  refine At.mk fun i hi => ?_
  rw [World.cell?_setCell_other (w := w) (v := v) (a := ⟨b, k, none⟩) (b := ⟨b, o + i, none⟩) (by intro e; injection e with _ e2; omega)]
  exact h.cell hi

theorem held_store51 {w : World} {vb arb : Nat} {v x : Value} (hne : vb ≠ arb) (h : w.cell? ⟨vb, 0, none⟩ = some v) : (w.setCell ⟨arb, 51, none⟩ x).cell? ⟨vb, 0, none⟩ = some v :=
  (World.cell?_setCell_other (w := w) (v := x) (a := ⟨arb, 51, none⟩) (b := ⟨vb, 0, none⟩) (by intro e; injection e with e1; exact hne e1.symm)).trans h

theorem info103 : (Tryd.prog.info? 103).map (·.size) = some (encCells 64).size := by rw [encCells_size]; kernel_rfl

theorem index_abc (b cp : Nat) (c : Int) (w : World) (hat : At w ⟨b, 0, none⟩ [89, 87, 74, 106]) (hc : Lib.indexByte [89, 87, 74, 106] c.toNat.toUInt8 = -1) :
    Calls Tryd.prog 73 #[.slice (some ⟨b, 0, none⟩) 4 cp, .int .u8 c] w fun e w' => e = .returned (.int .i64 (-1)) ∧ w' = w := by
  have h := Tryd.bytes_IndexByte b 0 4 cp [89, 87, 74, 106] c w rfl (fun i hi => by
    rw [hat.cell (i := i) hi]
    match i, hi with
    | 0, _ => rfl
    | 1, _ => rfl
    | 2, _ => rfl
    | 3, _ => rfl)
  have e1 : Lib.bytesOf [89, 87, 74, 106] = [89, 87, 74, 106] := by decide +kernel
  rw [e1, hc] at h
  exact h

set_option maxHeartbeats 4000000 in
set_option maxRecDepth 100000 in
theorem armread_abc (xb sb rb bb arb pb c : Nat) (row prow : Array Value) (pE : Addr) (w : World) (hE : w.cell? ⟨0, 0, none⟩ = some (.iface 108 (.pointer (some pE)))) (har : Ar arb rb false (.slice none 0 0) .nilIface w) (hr : Rdr rb bb sb 0 0 (-1) (-1) w)
    (hs : w.heap[sb]? = some (.cells #[.slice (some ⟨xb, 0, none⟩) 73 c, .int .i64 0] 52 (0, 0))) (hb : w.heap[bb]? = some (.cells row 5 (0, 0))) (hrow : row.size = 4096) (hp : w.heap[pb]? = some (.cells prow 5 (0, 0))) (hprow : prow.size = 512)
    (hatx : At w ⟨xb, 0, none⟩ abcText) (hc : 73 ≤ c) (hc2 : c ≤ 9223372036854775807) (h0 : 0 < xb) (h1 : xb < sb) (h2 : sb < rb) (h3 : rb < bb) (h4 : bb < arb) (h5 : arb < pb) :
    Calls Tryd.prog 63 #[.pointer (some ⟨arb, 0, none⟩), .slice (some ⟨pb, 0, none⟩) 512 512] w fun e w' => e = .returned (.tuple #[.int .i64 3, .nilIface]) ∧ At w' ⟨pb, 0, none⟩ [97, 98, 99] ∧ (∃ st a c', Ar arb rb st (.slice a 0 c') (.iface 108 (.pointer (some pE))) w') ∧ Fr (fun k => sb ≤ k) w w' := by
  have hpl := (Array.getElem?_eq_some_iff.1 hp).1
  have fA : Fr (fun _ => False) w (w.alloc (.cells #[.pointer (some ⟨arb, 0, none⟩)] 65)) := Fr.alloc _
  have sd0 : Sd w.heap.size arb rb pb prow false (.slice none 0 0) .nilIface pE (w.alloc (.cells #[.pointer (some ⟨arb, 0, none⟩)] 65)) := ⟨fA.cell hE (fun h => h), by rw [cell_of_row _ _ _ _ _ _ (heap_alloc_new w _)]; rfl, har.fr fA (fun h => h), fA.keep hp (fun h => h)⟩
  obtain ⟨c0, c1, c2, c51, fz, hlt⟩ := sd0.ar.cells
  have hl1 := line_first w.heap.size arb rb bb sb xb c (-1) (-1) pE row _ sd0.eof sd0.box c0 (hr.fr fA (fun h => h)) (fA.keep hs (fun h => h)) (fA.keep hb (fun h => h)) hrow (hatx.fr fA (fun h => h)) hc hc2 (by omega) (by omega) (by omega) (by omega) (by omega) (by omega) (by omega)
  have Hl1 := Lib.hid hl1
  have Sd0 := Lib.hid sd0
  have FA := Lib.hid fA
  clear har fA sd0 hl1 hE hr hs hb hp hatx
  go_enter Tryd.func63, Tryd.ntmps63
  go_wp2_with fail
  refine wp_loop_rounds 2 ?_
  rw [rounds_succ]
  go_wp2_with fail
  refine Hl1.out.mono ?_
  rintro e w1 ⟨g1, rfl, hg1, hat1, hr1, ⟨sa, sc, hs1⟩, hb1, f1⟩
  have sd1 := Sd0.out.fr f1 (by rintro (e | e | e) <;> omega) (by rintro (e | e | e) <;> omega) (by rintro (e | e | e) <;> omega) (by rintro (e | e | e) <;> omega)
  have t1 : Fr (fun k => sb ≤ k) w w1 := (FA.out.none (S := fun k => sb ≤ k)).trans f1 (by rintro i _ (h | h | h) <;> (show sb ≤ i; omega))
  have hk1 : (convert 22 9 (.slice (some ⟨g1, 0, none⟩) 34 35)).run Tryd.prog w1 = .ok (.string ⟨#[45, 45, 45, 45, 45, 66, 69, 71, 73, 78, 32, 65, 71, 69, 32, 69, 78, 67, 82, 89, 80, 84, 69, 68, 32, 70, 73, 76, 69, 45, 45, 45, 45, 45]⟩) w1 := string_of hat1 rfl
  have Hk1 := Lib.hid hk1
  have Sd1 := Lib.hid sd1
  have T1 := Lib.hid t1
  have Hat1 := Lib.hid hat1
  have Hr1 := Lib.hid hr1
  have Hs1 := Lib.hid hs1
  have Hb1 := Lib.hid hb1
  clear hk1 sd1 t1 hat1 hr1 hs1 hb1 f1 Hl1 c0 c1 c2 c51 fz hlt
  go_wp2_with fail
  refine (blank_head _ 34 35 _ w1 Hk1.out (by decide) (by decide)).mono ?_
  rintro e w2 ⟨rfl, f2⟩
  have sd2 := Sd1.out.fr f2 (fun h => h) (fun h => h) (fun h => h) (fun h => h)
  have hk2 : (convert 22 9 (.slice (some ⟨g1, 0, none⟩) 34 35)).run Tryd.prog w2 = .ok (.string ⟨#[45, 45, 45, 45, 45, 66, 69, 71, 73, 78, 32, 65, 71, 69, 32, 69, 78, 67, 82, 89, 80, 84, 69, 68, 32, 70, 73, 76, 69, 45, 45, 45, 45, 45]⟩) w2 := string_of (Hat1.out.fr f2 (fun h => h)) rfl
  obtain ⟨c0, c1, c2, c51, fz, hlt⟩ := sd2.ar.cells
  have fz1 := fz 1
  have hv2 := sd2.box
  have Sd2 := Lib.hid sd2
  have F2 := Lib.hid f2
  clear sd2 f2
  go_wp2_with fail
  have f3 : Fr (· = arb) w2 (w2.setCell ⟨arb, 1, none⟩ (.bool true)) := Fr.setCell ⟨arb, 1, none⟩ (.bool true) rfl
  have sd3 : Sd w.heap.size arb rb pb prow true (.slice none 0 0) .nilIface pE (w2.setCell ⟨arb, 1, none⟩ (.bool true)) := ⟨f3.cell Sd2.out.eof (by show ¬ 0 = arb; omega), f3.cell Sd2.out.box (by show ¬ w.heap.size = arb; omega), Sd2.out.ar.set1 true, f3.keep Sd2.out.row (by show ¬ pb = arb; omega)⟩
  have hr3 := (Hr1.out.fr F2.out (fun h => h)).fr f3 (by show ¬ rb = arb; omega)
  have hs3 := f3.keep (F2.out.keep Hs1.out (fun h => h)) (by show ¬ sb = arb; omega)
  have hb3 := (Hb1.out.fr F2.out (fun h => h)).fr f3 (by show ¬ bb = arb; omega)
  have t3 : Fr (fun k => sb ≤ k) w (w2.setCell ⟨arb, 1, none⟩ (.bool true)) := (T1.out.trans F2.out (fun _ _ h => h.elim)).trans f3 (by intro i _ h; have h' : i = arb := h; show sb ≤ i; omega)
  obtain ⟨w3, hw3⟩ : ∃ w3, w3 = w2.setCell ⟨arb, 1, none⟩ (.bool true) := ⟨_, rfl⟩
  rw [← hw3] at sd3 hr3 hs3 hb3 t3 ⊢
  clear hw3 f3 c0 c1 c2 c51 fz hlt fz1 hv2 hk2 Hk1 Sd1 T1 Hat1 Hr1 Hs1 Hb1 F2 Sd2
  obtain ⟨c0, c1, c2, c51, fz, hlt⟩ := sd3.ar.cells
  have hv := sd3.box
  have hl3 := line_next w.heap.size arb rb bb sb 35 4 10 (-1) [89, 87, 74, 106] (ft32 ++ [10]) pE w3 sd3.eof sd3.box c0 hr3 hb3 rfl (by omega) (by decide) (by decide) rfl (by omega) (by omega)
  have Hl3 := Lib.hid hl3
  have Sd3 := Lib.hid sd3
  have T3 := Lib.hid t3
  have Hs3 := Lib.hid hs3
  clear hl3 sd3 t3 hs3 hr3 hb3
  rw [rounds_succ]
  go_wp2_with fail
  refine Hl3.out.mono ?_
  rintro e w4 ⟨g2, rfl, hg2, hat4, hr4, hb4, f4⟩
  have sd4 := Sd3.out.fr f4 (by show ¬ 0 = rb; omega) (by show ¬ w.heap.size = rb; omega) (by show ¬ arb = rb; omega) (by show ¬ pb = rb; omega)
  have t4 : Fr (fun k => sb ≤ k) w w4 := T3.out.trans f4 (by intro i _ h; have h' : i = rb := h; show sb ≤ i; omega)
  have hs4 := f4.keep Hs3.out (by show ¬ sb = rb; omega)
  have hk4 : (convert 22 9 (.slice (some ⟨g2, 0, none⟩) 4 5)).run Tryd.prog w4 = .ok (.string ⟨#[89, 87, 74, 106]⟩) w4 := string_of hat4 rfl
  have hk4n : ∀ w, (binOp .eql 9 (.string ⟨#[89, 87, 74, 106]⟩) (.string ⟨#[45, 45, 45, 45, 45, 69, 78, 68, 32, 65, 71, 69, 32, 69, 78, 67, 82, 89, 80, 84, 69, 68, 32, 70, 73, 76, 69, 45, 45, 45, 45, 45]⟩)).run Tryd.prog w = .ok (.bool false) w := fun _ => by kernel_rfl
  have hz3 := Sd3.out.ar.cells.2.2.2.2.2
  have hg2' : arb < g2 := by omega
  have Sd4 := Lib.hid sd4
  have T4 := Lib.hid t4
  have Hs4 := Lib.hid hs4
  have Hat4 := Lib.hid hat4
  have Hr4 := Lib.hid hr4
  have Hb4 := Lib.hid hb4
  obtain ⟨c0, c1, c2, c51, fz, hlt⟩ := Sd4.out.ar.cells
  have fz2 := fz 2
  have hv4 := Sd4.out.box
  clear sd4 t4 hs4 hat4 hr4 hb4 f4 Sd3 T3 Hs3 Hl3
  go_wp2_with fail
  refine (index_abc g2 5 10 _ Hat4.out (by decide +kernel)).mono ?_
  rintro e w5 ⟨rfl, hw5⟩
  obtain rfl := hw5
  go_wp2_with fail
  refine (index_abc g2 5 13 _ Hat4.out (by decide +kernel)).mono ?_
  rintro e w5 ⟨rfl, hw5⟩
  obtain rfl := hw5
  go_wp2_with fail
  go_region
  obtain ⟨w6, hw6⟩ : ∃ w6, w6 = (w5.setCell ⟨arb, 2, none⟩ (.slice (some ⟨arb, 3, none⟩) 48 48)).drew := ⟨_, rfl⟩
  have f6 : Fr (· = arb) w5 (w5.setCell ⟨arb, 2, none⟩ (.slice (some ⟨arb, 3, none⟩) 48 48)) := Fr.setCell ⟨arb, 2, none⟩ (.slice (some ⟨arb, 3, none⟩) 48 48) rfl
  have q6 : Fr (fun _ => False) (w5.setCell ⟨arb, 2, none⟩ (.slice (some ⟨arb, 3, none⟩) 48 48)) w6 := hw6 ▸ Fr.drew
  have sd6 : Sd w.heap.size arb rb pb prow true (.slice (some ⟨arb, 3, none⟩) 48 48) .nilIface pE w6 :=
    Sd.fr ⟨f6.cell Sd4.out.eof (by show ¬ 0 = arb; omega), f6.cell Sd4.out.box (by show ¬ w.heap.size = arb; omega), Sd4.out.ar.set2 _, f6.keep Sd4.out.row (by show ¬ pb = arb; omega)⟩ q6 (fun h => h) (fun h => h) (fun h => h) (fun h => h)
  have hr6 : Rdr rb bb sb 40 73 10 (-1) w6 := (Hr4.out.fr f6 (by show ¬ rb = arb; omega)).fr q6 (fun h => h)
  have hs6 := q6.keep (f6.keep Hs4.out (by show ¬ sb = arb; omega)) (fun h => h)
  have hb6 := (Hb4.out.fr f6 (by show ¬ bb = arb; omega)).fr q6 (fun h => h)
  have hat6 := (Hat4.out.fr f6 (by show ¬ g2 = arb; omega)).fr q6 (fun h => h)
  have t6 : Fr (fun k => sb ≤ k) w w6 := (T4.out.trans f6 (by intro i _ h; have h' : i = arb := h; show sb ≤ i; omega)).trans q6 (fun _ _ h => h.elim)
  rw [← hw6]
  clear hw6 f6 q6 c0 c1 c2 c51 fz hlt fz2 hv4 hk4 hk4n Sd4 T4 Hat4 Hr4 Hs4 Hb4
  obtain ⟨c0, c1, c2, c51, fz, hlt⟩ := sd6.ar.cells
  have hv6 := sd6.box
  obtain ⟨cs, a1, a2, a3, a4, a5, a6⟩ := sd6.ar
  have Sd6 := Lib.hid sd6
  have Hr6 := Lib.hid hr6
  have Hs6 := Lib.hid hs6
  have Hb6 := Lib.hid hb6
  have Hat6 := Lib.hid hat6
  have T6 := Lib.hid t6
  have A1 := Lib.hid a1
  clear sd6 hr6 hs6 hb6 hat6 t6 a1
  go_wp2_with fail
  refine wp_region_noPanic ?_
  refine wp_region_held_drew (S := fun w' => w'.cell? ⟨w.heap.size, 0, none⟩ = some (.pointer (some ⟨arb, 0, none⟩)) ∧ w'.cell? ⟨arb, 2, none⟩ = some (.slice (some ⟨arb, 3, none⟩) 48 48)) (by kernel_rfl) ⟨hv6, c2⟩ (fun hHeld => ?_)
  refine wpAnyH_take (i := 4) (oi := _) (v := ?_) rfl (by kernel_rfl) (by kernel_rfl) (by kernel_rfl) (fun _ _ _ h => h) (Or.inl ⟨by rfl, by rintro w ⟨s1, s2⟩; go_simp; rfl⟩) hHeld ?_
  try simp only [Act.put, List.setIfInBounds_toArray]
  refine wpAnyH_take (i := 5) (oi := _) (v := ?_) rfl (by kernel_rfl) (by kernel_rfl) (by kernel_rfl) (fun _ _ _ h => h) (Or.inl ⟨by rfl, by rintro w ⟨s1, s2⟩; go_simp; rfl⟩) hHeld ?_
  try simp only [Act.put]
  refine wpAnyH_take (i := 6) (oi := _) (v := ?_) rfl (by kernel_rfl) (by kernel_rfl) (by kernel_rfl) (fun _ _ _ h => h) (Or.inl ⟨by rfl, by rintro w ⟨s1, s2⟩; go_simp; rfl⟩) hHeld ?_
  try simp only [Act.put]
  refine wpAnyH_take (i := 7) (oi := _) (v := ?_) rfl (by kernel_rfl) (by kernel_rfl) (by kernel_rfl) (fun _ _ _ h => h) (Or.inl ⟨by rfl, by rintro w ⟨s1, s2⟩; go_simp; rfl⟩) hHeld ?_
  try simp only [Act.put]
  refine wpAnyH_take (i := 8) (oi := _) (v := ?_) rfl (by kernel_rfl) (by kernel_rfl) (by kernel_rfl) (fun _ _ _ h => h) (Or.inl ⟨by rfl, by rintro w ⟨s1, s2⟩; go_simp; rfl⟩) hHeld ?_
  try simp only [Act.put]
  refine wpAnyH_ready (rs := [0]) (by kernel_rfl) (by simp) (AllReadyH.cons (o := _) rfl (fun K hK => ?_) AllReadyH.nil)
  go_simp
  refine (b64_at _).mono ?_
  rintro e w7 ⟨rfl, k7, f7⟩
  have x7 : w7.cell? ⟨w.heap.size, 0, none⟩ = some (.pointer (some ⟨arb, 0, none⟩)) ∧ w7.cell? ⟨arb, 2, none⟩ = some (.slice (some ⟨arb, 3, none⟩) 48 48) := ⟨f7.cell hHeld.1 (fun h => h), f7.cell hHeld.2 (fun h => h)⟩
  refine hK.out _ _ x7 (fun _ => ?_)
  have K7 := Lib.hid k7
  have F7 := Lib.hid (Fr.trans (Fr.drew (S := fun _ => False)) f7 (fun _ _ h => h))
  clear hK K hHeld k7 f7
  refine wpAnyH_take (i := 1) (oi := _) (v := ?_) rfl (by kernel_rfl) (by kernel_rfl) (by kernel_rfl) (fun _ _ _ h => h) (Or.inl ⟨by rfl, by rintro w ⟨s1, s2⟩; go_simp; rfl⟩) x7 ?_
  try simp only [Act.put, List.setIfInBounds_toArray]
  refine wpAnyH_ready (rs := [2]) (by kernel_rfl) (by simp) (AllReadyH.cons (o := _) rfl (fun K hK => ?_) AllReadyH.nil)
  rw [if_pos (by rfl)]
  refine wp_load_row 103 _ rfl _ rfl 103 (encCells 64) (0, 0) _ K7.out Tryd.underlying103 rfl info103 ?_
  refine hK.out _ _ x7 (fun _ => ?_)
  clear hK K
  try simp only [Act.put]
  refine wpAnyH_ready (rs := [3]) (by kernel_rfl) (by simp) (AllReadyH.cons (o := _) rfl (fun K hK => ?_) AllReadyH.nil)
  go_simp
  refine (strict_at _).mono ?_
  rintro e w8 ⟨rfl, k8, f8⟩
  have x8 : w8.cell? ⟨w.heap.size, 0, none⟩ = some (.pointer (some ⟨arb, 0, none⟩)) ∧ w8.cell? ⟨arb, 2, none⟩ = some (.slice (some ⟨arb, 3, none⟩) 48 48) := ⟨f8.cell x7.1 (fun h => h), f8.cell x7.2 (fun h => h)⟩
  refine hK.out _ _ x8 (fun _ => ?_)
  have k8' : StrictAt w7.heap.size w8 := k8
  have K8 := Lib.hid k8'
  have F8 := Lib.hid (F7.out.trans f8 (fun _ _ h => h))
  clear hK K x7 k8 k8' f8
  try simp only [Act.put, List.setIfInBounds_toArray, List.set_cons_zero, List.set_cons_succ]
  refine wpAnyH_ready (rs := [9]) (by kernel_rfl) (by simp) (AllReadyH.cons (o := _) rfl (fun K hK => ?_) AllReadyH.nil)
  go_simp
  refine (decode_abc w7.heap.size arb g2 5 cs 70 w8 K8.out (F8.out.keep A1.out (fun h => h)) (by omega) (Hat6.out.fr F8.out (fun h => h)) (by omega) (by omega)).mono ?_
  rintro e w9 ⟨rfl, k9, f9⟩
  have e9 := fun i => cell_of_row w9 arb i _ _ _ k9
  have x9 : w9.cell? ⟨w.heap.size, 0, none⟩ = some (.pointer (some ⟨arb, 0, none⟩)) ∧ w9.cell? ⟨arb, 2, none⟩ = some (.slice (some ⟨arb, 3, none⟩) 48 48) := ⟨f9.cell x8.1 (by show ¬ w.heap.size = arb; omega), by rw [e9]; simp [a5]⟩
  refine hK.out _ _ x9 (fun _ => ?_)
  have ar9 : Ar arb rb true (.slice (some ⟨arb, 3, none⟩) 48 48) .nilIface w9 := ⟨_, k9, by simp [a2], by simp [a3], by simp [a4], by simp [a5], by simp [a6]⟩
  have abc9 : At w9 ⟨arb, 3, none⟩ [97, 98, 99] := At.mk fun i hi => by
    rw [e9]
    match i, hi with
    | 0, _ => simp [a2]
    | 1, _ => simp [a2]
    | 2, _ => simp [a2]
  have g9 : Fr (· = arb) w6 w9 := (F8.out.none (S := (· = arb))).trans f9 (fun _ _ h => h)
  have sd9 : Sd w.heap.size arb rb pb prow true (.slice (some ⟨arb, 3, none⟩) 48 48) .nilIface pE w9 := ⟨g9.cell Sd6.out.eof (by show ¬ 0 = arb; omega), g9.cell Sd6.out.box (by show ¬ w.heap.size = arb; omega), ar9, g9.keep Sd6.out.row (by show ¬ pb = arb; omega)⟩
  have hr9 := Hr6.out.fr g9 (by show ¬ rb = arb; omega)
  have hs9 := g9.keep Hs6.out (by show ¬ sb = arb; omega)
  have hb9 := Hb6.out.fr g9 (by show ¬ bb = arb; omega)
  have t9 : Fr (fun k => sb ≤ k) w w9 := T6.out.trans g9 (by intro i _ h; have h' : i = arb := h; show sb ≤ i; omega)
  have Sd9 := Lib.hid sd9
  have Hr9 := Lib.hid hr9
  have Hs9 := Lib.hid hs9
  have Hb9 := Lib.hid hb9
  have T9 := Lib.hid t9
  have Abc9 := Lib.hid abc9
  clear hK K x8 k9 e9 ar9 abc9 g9 sd9 hr9 hs9 hb9 t9 f9 F8 F7 K7 K8 Sd6 Hr6 Hs6 Hb6 Hat6 T6 A1 a2 a3 a4 a5 a6 c0 c1 c2 c51 fz hlt hv6
  try simp only [Act.put, List.setIfInBounds_toArray, List.set_cons_zero, List.set_cons_succ]
  refine wpAnyH_take (i := 10) (oi := _) (v := ?_) rfl (by kernel_rfl) (by kernel_rfl) (by kernel_rfl) (fun _ _ _ h => h) (Or.inl ⟨by rfl, by rintro w ⟨s1, s2⟩; go_simp; rfl⟩) x9 ?_
  try simp only [Act.put, List.setIfInBounds_toArray]
  refine wpAnyH_take (i := 11) (oi := _) (v := ?_) rfl (by kernel_rfl) (by kernel_rfl) (by kernel_rfl) (fun _ _ _ h => h) (Or.inl ⟨by rfl, by rintro w ⟨s1, s2⟩; go_simp; rfl⟩) x9 ?_
  try simp only [Act.put]
  refine wpAnyH_take (i := 12) (oi := _) (v := ?_) rfl (by kernel_rfl) (by kernel_rfl) (by kernel_rfl) (fun _ _ _ h => h) (Or.inl ⟨by rfl, by rintro w ⟨s1, s2⟩; go_simp; rfl⟩) x9 ?_
  try simp only [Act.put]
  refine wpAnyH_take (i := 13) (oi := _) (v := ?_) rfl (by kernel_rfl) (by kernel_rfl) (by kernel_rfl) (fun _ _ _ h => h) (Or.inl ⟨by rfl, by rintro w ⟨s1, s2⟩; go_simp; rfl⟩) x9 ?_
  try simp only [Act.put]
  refine wpAnyH_take (i := 14) (oi := _) (v := ?_) rfl (by kernel_rfl) (by kernel_rfl) (by kernel_rfl) (fun _ _ _ h => h) (Or.inl ⟨by rfl, by rintro w ⟨s1, s2⟩; go_simp; rfl⟩) x9 ?_
  try simp only [Act.put]
  refine wpAnyH_done (by kernel_rfl) (NoPanic.normal ?_) _
  obtain ⟨c0, c1, c2, c51, fz, hlt⟩ := Sd9.out.ar.cells
  have hv9 := Sd9.out.box
  have fz2 := fz 2
  go_wp2_with fail
  go_region
  obtain ⟨w10, hw10⟩ : ∃ w10, w10 = (w9.setCell ⟨arb, 2, none⟩ (.slice (some ⟨arb, 3, none⟩) 3 48)).drew := ⟨_, rfl⟩
  have f10 : Fr (· = arb) w9 (w9.setCell ⟨arb, 2, none⟩ (.slice (some ⟨arb, 3, none⟩) 3 48)) := Fr.setCell ⟨arb, 2, none⟩ (.slice (some ⟨arb, 3, none⟩) 3 48) rfl
  have q10 : Fr (fun _ => False) (w9.setCell ⟨arb, 2, none⟩ (.slice (some ⟨arb, 3, none⟩) 3 48)) w10 := hw10 ▸ Fr.drew
  have sd10 : Sd w.heap.size arb rb pb prow true (.slice (some ⟨arb, 3, none⟩) 3 48) .nilIface pE w10 :=
    Sd.fr ⟨f10.cell Sd9.out.eof (by show ¬ 0 = arb; omega), f10.cell Sd9.out.box (by show ¬ w.heap.size = arb; omega), Sd9.out.ar.set2 _, f10.keep Sd9.out.row (by show ¬ pb = arb; omega)⟩ q10 (fun h => h) (fun h => h) (fun h => h) (fun h => h)
  have hr10 : Rdr rb bb sb 40 73 10 (-1) w10 := (Hr9.out.fr f10 (by show ¬ rb = arb; omega)).fr q10 (fun h => h)
  have hs10 := q10.keep (f10.keep Hs9.out (by show ¬ sb = arb; omega)) (fun h => h)
  have hb10 := (Hb9.out.fr f10 (by show ¬ bb = arb; omega)).fr q10 (fun h => h)
  have abc10 : At w10 ⟨arb, 3, none⟩ [97, 98, 99] := (Abc9.out.setOther 2 _ (.inl (by omega))).fr q10 (fun h => h)
  have t10 : Fr (fun k => sb ≤ k) w w10 := (T9.out.trans f10 (by intro i _ h; have h' : i = arb := h; show sb ≤ i; omega)).trans q10 (fun _ _ h => h.elim)
  rw [← hw10]
  clear hw10 f10 q10 c0 c1 c2 c51 fz hlt fz2 hv9 Sd9 T9 Abc9 Hr9 Hs9 Hb9
  obtain ⟨c0, c1, c2, c51, fz, hlt⟩ := sd10.ar.cells
  have hv10 := sd10.box
  have hl10 := line_next w.heap.size arb rb bb sb 40 32 10 (-1) ft32 [] pE w10 sd10.eof sd10.box c0 hr10 hb10 rfl (by omega) (by decide) (by decide) (by decide) (by omega) (by omega)
  have Hl10 := Lib.hid hl10
  have Sd10 := Lib.hid sd10
  have T10 := Lib.hid t10
  have Hs10 := Lib.hid hs10
  have Abc10 := Lib.hid abc10
  clear hl10 sd10 t10 hs10 hr10 hb10 abc10
  go_wp2_with fail
  refine Hl10.out.mono ?_
  rintro e w11 ⟨g3, rfl, hg3, hat11, hr11, hb11, f11⟩
  have sd11 := Sd10.out.fr f11 (by show ¬ 0 = rb; omega) (by show ¬ w.heap.size = rb; omega) (by show ¬ arb = rb; omega) (by show ¬ pb = rb; omega)
  have t11 : Fr (fun k => sb ≤ k) w w11 := T10.out.trans f11 (by intro i _ h; have h' : i = rb := h; show sb ≤ i; omega)
  have hs11 := f11.keep Hs10.out (by show ¬ sb = rb; omega)
  have abc11 := Abc10.out.fr f11 (by show ¬ arb = rb; omega)
  have hk11 : (convert 22 9 (.slice (some ⟨g3, 0, none⟩) 32 33)).run Tryd.prog w11 = .ok (.string ⟨#[45, 45, 45, 45, 45, 69, 78, 68, 32, 65, 71, 69, 32, 69, 78, 67, 82, 89, 80, 84, 69, 68, 32, 70, 73, 76, 69, 45, 45, 45, 45, 45]⟩) w11 := string_of hat11 rfl
  have hr11' : Rdr rb bb sb 73 73 10 (-1) w11 := hr11
  clear c0 c1 c2 c51 fz hlt hv10
  obtain ⟨c0, c1, c2, c51, fz, hlt⟩ := sd11.ar.cells
  have hv11 := sd11.box
  have Sd11 := Lib.hid sd11
  have T11 := Lib.hid t11
  have Hs11 := Lib.hid hs11
  have Abc11 := Lib.hid abc11
  have Hr11 := Lib.hid hr11'
  clear sd11 t11 hs11 abc11 hr11 hr11' hb11 f11 hat11 Sd10 T10 Hs10 Abc10 Hl10
  go_wp2_with fail
  have hne0 : w.heap.size ≠ arb := by omega
  go_region_held3 (fun w' => w'.cell? ⟨w.heap.size, 0, none⟩ = some (.pointer (some ⟨arb, 0, none⟩))) (first | assumption | exact held_store51 hne0 (by assumption))
    (first
      | (go_at_call 68; refine (drain_end w.heap.size arb rb bb sb 73 sc 10 (-1) sa pE _ (by exact Sd11.out.eof) (by exact Sd11.out.box) (by exact c0) (by exact Hr11.out) (by exact Hs11.out) (by omega) (by omega) (by omega)).mono ?_; rintro e w12 ⟨rfl, k12, f12⟩; have x12 := f12.cell (by exact hv11) (by show ¬ w.heap.size = rb; omega); have y12 := f12.cell (by exact Sd11.out.eof) (by show ¬ 0 = rb; omega); have z12 := f12.cell (by exact c51) (by show ¬ arb = rb; omega); have ar12 := Ar.fr (by exact Sd11.out.ar) f12 (by show ¬ arb = rb; omega))
      | (go_at_call 64; refine (setErr_eof arb pE _ _ (by exact y12) (by exact z12) (ar12.cells.2.2.2.2.1 51)).mono ?_; rintro e w13 ⟨rfl, hw13⟩; obtain rfl := hw13))
  have f13 : Fr (· = arb) w12 (w12.setCell ⟨arb, 51, none⟩ (.iface 108 (.pointer (some pE)))) := Fr.setCell ⟨arb, 51, none⟩ (.iface 108 (.pointer (some pE))) rfl
  have q12 : Fr (· = rb) w11 w12 := Fr.trans (Fr.drew (S := (· = rb))) f12 (fun _ _ h => h)
  have hp12 := q12.keep Sd11.out.row (by show ¬ pb = rb; omega)
  have abc12 := Abc11.out.fr q12 (by show ¬ arb = rb; omega)
  have sd13 : Sd w.heap.size arb rb pb prow true (.slice (some ⟨arb, 3, none⟩) 3 48) (.iface 108 (.pointer (some pE))) pE (w12.setCell ⟨arb, 51, none⟩ (.iface 108 (.pointer (some pE)))) :=
    ⟨f13.cell y12 (by show ¬ 0 = arb; omega), f13.cell x12 (by show ¬ w.heap.size = arb; omega), ar12.set51 _, f13.keep hp12 (by show ¬ pb = arb; omega)⟩
  have abc13 : At (w12.setCell ⟨arb, 51, none⟩ (.iface 108 (.pointer (some pE)))) ⟨arb, 3, none⟩ [97, 98, 99] := abc12.setOther 51 _ (.inr (by decide))
  have t13 : Fr (fun k => sb ≤ k) w (w12.setCell ⟨arb, 51, none⟩ (.iface 108 (.pointer (some pE)))) := (T11.out.trans q12 (by intro i _ h; have h' : i = rb := h; show sb ≤ i; omega)).trans f13 (by intro i _ h; have h' : i = arb := h; show sb ≤ i; omega)
  obtain ⟨w13, hw13⟩ : ∃ w13, w13 = w12.setCell ⟨arb, 51, none⟩ (.iface 108 (.pointer (some pE))) := ⟨_, rfl⟩
  rw [← hw13] at sd13 abc13 t13 ⊢
  clear c0 c1 c2 c51 fz hlt hv11 hk11
  obtain ⟨c0, c1, c2, c51, fz, hlt⟩ := sd13.ar.cells
  have hv13 := sd13.box
  have hp13 := sd13.row
  have hat7 : 0 < 3 → ∃ ad, (some ⟨arb, 3, none⟩ : Option Addr) = some ad ∧ ∀ j v, (Lib.byteCells [97, 98, 99])[j]? = some v → w13.cell? (ad.add j) = some v := fun _ => ⟨_, rfl, abc13⟩
  have hl7 : (Lib.byteCells [97, 98, 99]).length = 3 := by rw [byteCells_length]; rfl
  have hm7 : 3 = Nat.min 3 512 := by decide
  have Sd13 := Lib.hid sd13
  have T13 := Lib.hid t13
  have Hp13 := Lib.hid hp13
  have Hat7 := Lib.hid hat7
  have Hl7 := Lib.hid hl7
  have Hm7 := Lib.hid hm7
  have hap : arb ≠ pb := by omega
  have hvp : w.heap.size ≠ pb := by omega
  clear sd13 t13 abc13 hp13 hat7 hl7 hm7 hw13 f13 q12 hp12 abc12 k12 f12 x12 y12 z12 ar12 Sd11 T11 Hs11 Abc11 Hr11
  go_wp2_with (with_reducible refine wpList_copy_fr rfl _ _ 22 22 rfl 5 Tryd.underlying22 size5 _ _ _ _ _ _ rfl rfl pb 0 3 prow 5 (by exact Hp13.out) (Lib.byteCells [97, 98, 99]) Hl7.out Hm7.out (fun h => ⟨rfl, Hat7.out h⟩) (by omega) (row_oneCell _) ?_; intro w14 h14 f14; have ar14 := Ar.fr Sd13.out.ar f14.out hap; have hv14 := f14.out.cell Sd13.out.box hvp; have d2 := ar14.cells.2.2.1; have dz := ar14.cells.2.2.2.2.1 2; have Ar14 := Lib.hid ar14; clear ar14)
  go_region
  go_wp2_with fail
  go_ret2
  have f15 : Fr (· = arb) w14 (w14.setCell ⟨arb, 2, none⟩ (.slice (some ⟨arb, 6, none⟩) 0 45)) := Fr.setCell ⟨arb, 2, none⟩ (.slice (some ⟨arb, 6, none⟩) 0 45) rfl
  have q15 : Fr (fun _ => False) (w14.setCell ⟨arb, 2, none⟩ (.slice (some ⟨arb, 6, none⟩) 0 45)) (w14.setCell ⟨arb, 2, none⟩ (.slice (some ⟨arb, 6, none⟩) 0 45)).drew := Fr.drew
  have hout : At w14 ⟨pb, 0, none⟩ [97, 98, 99] := At.splice h14.out (by simp [hprow])
  refine ⟨rfl, (hout.fr f15 (fun e => hap e.symm)).fr q15 (fun h => h), ⟨true, some ⟨arb, 6, none⟩, 45, (Ar14.out.set2 _).fr q15 (fun h => h)⟩, ?_⟩
  exact ((T13.out.trans f14.out (by intro i _ h; have h' : i = pb := h; show sb ≤ i; omega)).trans f15 (by intro i _ h; have h' : i = arb := h; show sb ≤ i; omega)).trans q15 (fun _ _ h => h.elim)
end Go.Proofs.YtempflfhlbojgaaDoor
