/-
  The walk of Armored's closure: a buffer, the armored writer over it, the bytes written; the text is laid into the captured variable.
-/
import Derived.Test.YtempflfhlbojgaaDoorWritten
namespace Go.Proofs.YtempflfhlbojgaaDoor
open Go.RowKit

theorem Buf.zero {T : TypeId} {R : Nat → Option Value} {B b o : Nat} {w : World} {lr : Int} (hB : B ≤ b) (h : LibA.Three w b o T R (.slice none 0 0) (.int .i64 0) (.int .i8 lr)) : Buf T R B b o (.slice none 0 0) [] w :=
  ⟨hB, ⟨lr, h⟩, ⟨rfl, .inl ⟨rfl, rfl⟩⟩, by simp [Value.ownBlock]⟩

theorem armorText_pos (l : List UInt8) : 68 ≤ (armorText l).length := by
  simp only [armorText, List.length_append]
  rw [show headLine.length = 35 from rfl, show footLine.length = 32 from rfl]
  simp only [List.length_cons, List.length_nil]
  omega

/-- The makers' end: nothing written yet. -/
theorem sys_start {B eb cb bw bo ab : Nat} {w0 w' : World} (_hB : B ≤ w0.heap.size) (h0 : w0.heap[bo]? = some (.cells #[.slice none 0 0, .int .i64 0, .int .i8 0] 56 (0, 0))) (hbo : B ≤ bo) (h1 : w0.heap.size ≤ eb) (h2 : eb < bw) (h3 : bw < cb) (h4 : cb < ab) (h5 : ab < w'.heap.size)
    (he : Enc eb w') (hw : w'.heap[bw]? = some (.cells #[.iface 92 (.pointer (some ⟨cb, 0, none⟩)), .iface 61 (.pointer (some ⟨bo, 0, none⟩)), .int .i64 0, .slice none 0 0, .int .i64 0, .int .i8 0] 84 (0, 0)))
    (hp : Pend cb eb bw [] w') (ha : ArmW ab bw bo false false w') (hf : Fr (fun _ => False) w0 w') : Sys (fun k => k < B) B eb cb bw bo ab [] false false w' := by
  have hlt := (Array.getElem?_eq_some_iff.1 h0).1
  refine ⟨he, ha, hp, ⟨.slice none 0 0, .slice none 0 0, Buf.zero (lr := 0) (by omega) ⟨_, hw, rfl, rfl, rfl, fun i hi => ?_⟩, Buf.zero (lr := 0) hbo (LibA.three_whole (hf.keep h0 (fun h => h))), by omega, by simp [Value.ownBlock], by simp [Value.ownBlock], by simp [Value.ownBlock], by omega, fun x hx => ⟨?_, ?_, ?_, by simp [Value.ownBlock], by simp [Value.ownBlock]⟩⟩, by omega, by omega, by omega, fun k hk => by omega, fun _ => rfl⟩
  · match i, hi with
    | 0, _ => rfl
    | 1, _ => rfl
    | 2, _ => rfl
    | 3, hi => omega
    | 4, hi => omega
    | 5, hi => omega
    | i + 6, _ => exact Array.getElem?_eq_none (by simp)
  · rcases hx with hx | rfl | rfl | rfl <;> omega
  · rcases hx with hx | rfl | rfl | rfl <;> omega
  · rcases hx with hx | rfl | rfl | rfl <;> omega

set_option maxHeartbeats 4000000 in
set_option maxRecDepth 100000 in
theorem armored1_at (xb yb tb fb pb po c p : Nat) (a0 : Option Addr) (ds : List UInt8) (v0 v1 : Value) (w : World) (hx : w.cell? ⟨xb, 0, none⟩ = some (.slice a0 ds.length c)) (hy : w.cell? ⟨yb, 0, none⟩ = some (.int .i64 p))
    (ht : w.heap[tb]? = some (.cells #[v0] 22 (0, 0))) (hf : w.heap[fb]? = some (.cells #[v1] 4 (0, 0))) (htf : tb ≠ fb)
    (ha : 0 < ds.length → a0 = some ⟨pb, po, none⟩ ∧ At w ⟨pb, po, none⟩ ds) (hL : ds.length ≤ 5000) (hc : ds.length ≤ c) (hc2 : c ≤ 9223372036854775807) (hp : p ≤ 10000) :
    Calls Tryd.prog 21 #[.pointer (some ⟨xb, 0, none⟩), .pointer (some ⟨yb, 0, none⟩), .pointer (some ⟨tb, 0, none⟩), .pointer (some ⟨fb, 0, none⟩)] w fun e w' => e = .returned (.tuple #[]) ∧
      ∃ g cap, w'.heap[tb]? = some (.cells #[.slice (some ⟨g, 0, none⟩) (armorText ds).length cap] 22 (0, 0)) ∧ w'.heap[fb]? = some (.cells #[.bool true] 4 (0, 0)) ∧ At w' ⟨g, 0, none⟩ (armorText ds) ∧ w.heap.size ≤ g ∧ Fr (fun k => k = tb ∨ k = fb) w w' := by
  have hxl := World.block_lt_of_cell? w _ hx
  have hyl := World.block_lt_of_cell? w _ hy
  have htl := (Array.getElem?_eq_some_iff.1 ht).1
  have hfl := (Array.getElem?_eq_some_iff.1 hf).1
  have hpb : 0 < ds.length → pb < w.heap.size := fun h => by
    have := (ha h).2.cell (i := 0) h
    exact World.block_lt_of_cell? w _ this
  have hfa : Fr (fun _ => False) w (w.alloc (.cells #[.slice none 0 0, .int .i64 0, .int .i8 0] 56)) := Fr.alloc _
  have hbo : (w.alloc (.cells #[.slice none 0 0, .int .i64 0, .int .i8 0] 56)).heap[w.heap.size]? = some (.cells #[.slice none 0 0, .int .i64 0, .int .i8 0] 56 (0, 0)) := heap_alloc_new w _
  have hszA : (w.alloc (.cells #[.slice none 0 0, .int .i64 0, .int .i8 0] 56)).heap.size = w.heap.size + 1 := by simp
  obtain ⟨wA, hwA⟩ : ∃ wA, wA = w.alloc (.cells #[.slice none 0 0, .int .i64 0, .int .i8 0] 56) := ⟨_, rfl⟩
  have hxA : wA.cell? ⟨xb, 0, none⟩ = some (.slice a0 ds.length c) := by rw [hwA]; exact hfa.cell hx (fun h => h)
  have hyA : wA.cell? ⟨yb, 0, none⟩ = some (.int .i64 p) := by rw [hwA]; exact hfa.cell hy (fun h => h)
  rw [← hwA] at hfa hbo hszA
  have hleA : w.heap.size ≤ wA.drew.heap.size := by show w.heap.size ≤ wA.heap.size; omega
  have Hx := Lib.hid hx
  have Hy := Lib.hid hy
  have Ht := Lib.hid ht
  have Hf := Lib.hid hf
  have Ha := Lib.hid ha
  have Hfa := Lib.hid hfa
  have Hbo := Lib.hid hbo
  have Hpb := Lib.hid hpb
  have HszA := Lib.hid hszA
  have HwA := Lib.hid hwA
  clear hx hy ht hf ha hfa hbo hpb hszA hwA
  go_enter Tryd.func21, Tryd.ntmps21
  go_wp2_with fail
  rw [← HwA.out]
  go_region_held3 (fun w' => w'.cell? ⟨xb, 0, none⟩ = some (.slice a0 ds.length c) ∧ w'.cell? ⟨yb, 0, none⟩ = some (.int .i64 p)) (constructor <;> assumption)
    (first
      | (go_at_call 23; refine (newWriter_at w.heap.size _).mono ?_; rintro e w1 ⟨eb, bw, cb, ab, rfl, q1, q2, q3, q4, q5, q6, q7, q8, q9, q10⟩; have hx1 := Fr.cell (w := wA.drew) q10 hxA (fun h => h); have hy1 := Fr.cell (w := wA.drew) q10 hyA (fun h => h); have hs1 := sys_start (B := w.heap.size) (w0 := wA.drew) hleA Hbo.out (Nat.le_refl _) q1 q2 q3 q4 q5 q6 q7 q8 q9 q10; have hf1 : Fr (fun _ => False) w w1 := (Hfa.out.trans (Fr.drew (S := fun _ => False)) (fun _ _ h => h)).trans q10 (fun _ _ h => h); have Hs1 := Lib.hid hs1; have Hf1 := Lib.hid hf1; clear q1 q2 q3 q4 q5 q6 q7 q8 q9 q10 hs1 hf1)
      | (go_at_call 22; refine (written_at (fun k => k < w.heap.size) w.heap.size _ _ _ _ _ pb po c p a0 ds _ Hs1.out (fun h => ⟨(Ha.out h).1, Hpb.out h, (Ha.out h).2.fr Hf1.out (fun h => h)⟩) hL hc hc2 hp).mono ?_; rintro e w2 ⟨rfl, ⟨n, m1⟩, m2⟩; have hx2 := m2.cell hx1 (fun h => h hxl); have hy2 := m2.cell hy1 (fun h => h hyl); have M1 := Lib.hid m1; have M2 := Lib.hid m2; clear m1 m2))
  obtain ⟨_, vo, _, hbuf, _⟩ := M1.out
  obtain ⟨_, lr, hbk, hcs⟩ := hbuf.cases
  have hpos := armorText_pos ds
  rcases hcs with ⟨e0, _⟩ | ⟨g, cap, cur, rfl, hBg, hg, hlc, hcm, hcsz, htk, hgb⟩
  · rw [e0] at hpos; simp at hpos
  have hF2 : Fr (fun k => ¬ k < w.heap.size) w w2 := Hf1.out.none.trans M2.out (fun _ _ h => h)
  have ht2 : w2.heap[tb]? = some (.cells #[v0] 22 (0, 0)) := hF2.keep Ht.out (fun h => h htl)
  have hf2 : w2.heap[fb]? = some (.cells #[v1] 4 (0, 0)) := hF2.keep Hf.out (fun h => h hfl)
  have hat : At w2 ⟨g, 0, none⟩ (armorText ds) := by
    intro j v hj
    rw [Addr.add_mid, Nat.zero_add, cell_of_row _ _ _ _ _ _ hg]
    have hjl : j < (armorText ds).length := by have := (List.getElem?_eq_some_iff.1 hj).1; rwa [byteCells_length] at this
    rw [← htk, List.getElem?_take_of_lt hjl] at hj
    simpa using hj
  have d0 := hbk.c0
  have d1 := hbk.c1
  have t0 : w2.cell? ⟨tb, 0, none⟩ = some v0 := by rw [cell_of_row _ _ _ _ _ _ ht2]; rfl
  have t1 : w2.frozen? ⟨tb, 0, none⟩ = false := frozen_of_row _ _ _ _ _ ht2
  have f0 : w2.cell? ⟨fb, 0, none⟩ = some v1 := by rw [cell_of_row _ _ _ _ _ _ hf2]; rfl
  have f1 : w2.frozen? ⟨fb, 0, none⟩ = false := frozen_of_row _ _ _ _ _ hf2
  have hlb : (armorText ds).length ≤ 9223372036854775807 := by unfold maxLen at hcm; omega
  obtain ⟨L, hL'⟩ : ∃ L, L = (armorText ds).length := ⟨_, rfl⟩
  rw [← hL'] at d0 hlb
  have HL := Lib.hid hL'
  have Hat := Lib.hid hat
  have HF2 := Lib.hid hF2
  have Ht2 := Lib.hid ht2
  have Hf2 := Lib.hid hf2
  clear hL' hat hF2 ht2 hf2 hbk hg hbuf htk
  go_wp2_with fail
  refine (bytes_at w.heap.size 0 (some ⟨g, 0, none⟩) L cap _ d0 d1 hlb).mono ?_
  rintro e w3 ⟨rfl, nd, hw3⟩
  subst hw3
  go_wp2_with fail
  go_returns
  rw [← HL.out]
  have g1 : ((w2.drewN nd).setCell ⟨tb, 0, none⟩ (.slice (some ⟨g, 0, none⟩) L cap)).heap[tb]? = some (.cells #[.slice (some ⟨g, 0, none⟩) L cap] 22 (0, 0)) := by
    have := Lib.heap_setCell_same (i := 0) (show (w2.drewN nd).heap[tb]? = _ from Ht2.out) (.slice (some ⟨g, 0, none⟩) L cap)
    simpa using this
  have s1 : Fr (· = tb) (w2.drewN nd) ((w2.drewN nd).setCell ⟨tb, 0, none⟩ (.slice (some ⟨g, 0, none⟩) L cap)) := Fr.setCell ⟨tb, 0, none⟩ (.slice (some ⟨g, 0, none⟩) L cap) rfl
  have s2 : Fr (· = fb) ((w2.drewN nd).setCell ⟨tb, 0, none⟩ (.slice (some ⟨g, 0, none⟩) L cap)) (((w2.drewN nd).setCell ⟨tb, 0, none⟩ (.slice (some ⟨g, 0, none⟩) L cap)).setCell ⟨fb, 0, none⟩ (.bool true)) := Fr.setCell ⟨fb, 0, none⟩ (.bool true) rfl
  have g2 : ((w2.drewN nd).setCell ⟨tb, 0, none⟩ (.slice (some ⟨g, 0, none⟩) L cap)).heap[fb]? = some (.cells #[v1] 4 (0, 0)) := s1.keep (show (w2.drewN nd).heap[fb]? = _ from Hf2.out) (fun e => htf e.symm)
  have hgt : g ≠ tb := by omega
  have hgf : g ≠ fb := by omega
  refine ⟨rfl, g, cap, s2.keep g1 htf, ?_, ?_, hBg, ?_⟩
  · have := Lib.heap_setCell_same (i := 0) g2 (.bool true)
    simpa using this
  · exact ((Hat.out.fr (Fr.drewN (S := fun _ => False) nd) (fun h => h)).fr s1 hgt).fr s2 hgf
  · have q0 : Fr (fun k => k = tb ∨ k = fb) w w2 := HF2.out.mono (fun i hi h => absurd hi h)
    have q1 := q0.trans (Fr.drewN (S := fun _ => False) nd) (fun _ _ h => h.elim)
    have q2 := q1.trans s1 (fun _ _ h => .inl h)
    exact q2.trans s2 (fun _ _ h => .inr h)
end Go.Proofs.YtempflfhlbojgaaDoor
