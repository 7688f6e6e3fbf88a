/-
  The walks of bytes.Buffer's Bytes, Reset, WriteTo.
-/
import Derived.Test.YtempflfhlbojgaaDoorBufW
import Derived.Deep.RegionHeld3
namespace Go.Proofs.YtempflfhlbojgaaDoor
open Go.RowKit

set_option maxHeartbeats 400000 in
/-- Bytes. -/
theorem bytes_at (b o : Nat) (a : Option Addr) (l c : Nat) (w : World) (h0 : w.cell? ⟨b, o, none⟩ = some (.slice a l c)) (h1 : w.cell? ⟨b, o + 1, none⟩ = some (.int .i64 0)) (_hl : l ≤ 9223372036854775807) :
    Calls Tryd.prog 24 #[.pointer (some ⟨b, o, none⟩)] w fun e w' => e = .returned (.slice a l c) ∧ ∃ n, w.drewN n = w' := by
  go_enter Tryd.func24, Tryd.ntmps24
  go_wp2
  go_quiet (fail)
  go_wp2
  go_ret
  exact ⟨rfl, _, rfl⟩

set_option maxHeartbeats 400000 in
/-- Reset. -/
theorem reset_at (b o : Nat) (a : Option Addr) (l c : Nat) (x : Int) (lr : Int) (w : World) (h0 : w.cell? ⟨b, o, none⟩ = some (.slice a l c)) (h1 : w.cell? ⟨b, o + 1, none⟩ = some (.int .i64 x)) (h2 : w.cell? ⟨b, o + 2, none⟩ = some (.int .i8 lr))
    (f : ∀ i, w.frozen? ⟨b, i, none⟩ = false) (_hl : l ≤ c) (_hc : c ≤ 9223372036854775807) :
    Calls Tryd.prog 41 #[.pointer (some ⟨b, o, none⟩)] w fun e w' => e = .returned (.tuple #[]) ∧ w' = ((w.setCell ⟨b, o, none⟩ (.slice a 0 c)).setCell ⟨b, o + 1, none⟩ (.int .i64 0)).setCell ⟨b, o + 2, none⟩ (.int .i8 0) := by
  have f0 := f o
  have f1 := f (o + 1)
  have f2 := f (o + 2)
  go_enter Tryd.func41, Tryd.ntmps41
  go_wp2
  go_end0
  exact ⟨rfl, rfl⟩

theorem nil_ahead61 (F : Nat) (a : Addr) (w : World) : (nilAhead (F + 1) 61 (.pointer (some a)) "Write").run Tryd.prog w = .ok (some false) w := by kernel_rfl
theorem method61 (F : Nat) (a : Addr) (w : World) : (method (F + 1) 61 (.pointer (some a)) "Write").run Tryd.prog w = .ok (37, .pointer (some a)) w := by kernel_rfl

set_option maxHeartbeats 4000000 in
set_option maxRecDepth 100000 in
/-- WriteTo: what the buffer holds is written onto another buffer; the first is empty then. -/
theorem writeTo_at (T : TypeId) (R : Nat → Option Value) (T' : TypeId) (R' : Nat → Option Value) (B b q bo qo g cap : Nat) (lr : Int) (cur : Array Value) (vo : Value) (l lo : List UInt8) (w : World)
    (hbk : LibA.Three w b q T R (.slice (some ⟨g, 0, none⟩) l.length cap) (.int .i64 0) (.int .i8 lr)) (hBb : B ≤ b) (hg : w.heap[g]? = some (.cells cur 5 (0, 0)))
    (hlc : l.length ≤ cap) (hcm : cap ≤ maxLen) (hcs : cur.size = cap) (ht : cur.toList.take l.length = Lib.byteCells l) (hgb : g ≠ b)
    (ho : Buf T' R' B bo qo vo lo w) (hbo : b ≠ bo) (hgbo : g ≠ bo) (hvb : vo.ownBlock ≠ some b) (hB : B ≤ w.heap.size) (h1 : 1 ≤ l.length) (hlim : lo.length + l.length ≤ 1000000) :
    Calls Tryd.prog 38 #[.pointer (some ⟨b, q, none⟩), .iface 61 (.pointer (some ⟨bo, qo, none⟩))] w fun e w' => e = .returned (.tuple #[.int .i64 l.length, .nilIface]) ∧
      LibA.Three w' b q T R (.slice (some ⟨g, 0, none⟩) 0 cap) (.int .i64 0) (.int .i8 0) ∧ ∃ vo', Buf T' R' B bo qo vo' (lo ++ l) w' ∧ RowStep w vo vo' ∧ Fr (fun k => k = b ∨ k = bo ∨ vo.ownBlock = some k) w w' := by
  have c2 : w.cell? ⟨b, q + 2, none⟩ = some (.int .i8 lr) := hbk.c2
  have f2 : w.frozen? ⟨b, q + 2, none⟩ = false := hbk.f (q + 2)
  have hbk1 := hbk.set2 (.int .i8 0)
  obtain ⟨W, hW⟩ : ∃ W, W = w.setCell ⟨b, q + 2, none⟩ (.int .i8 0) := ⟨_, rfl⟩
  have hna := fun F a w => nil_ahead61 F a w
  have hme := fun F a w => method61 F a w
  have hcm' := hcm
  unfold maxLen at hcm'
  go_enter Tryd.func38, Tryd.ntmps38
  go_wp2_with fail
  rw [← hW] at hbk1 ⊢
  refine (len_at b q _ l.length cap 0 _ hbk1.c0 hbk1.c1 (by omega) (Nat.zero_le _)).mono ?_
  rintro e W1 ⟨rfl, k, hW1⟩
  rw [Nat.sub_zero]
  have hbk2 : LibA.Three W1 b q T R (.slice (some ⟨g, 0, none⟩) l.length cap) (.int .i64 0) (.int .i8 0) := by rw [← hW1]; exact hbk1
  have hfr1 : Fr (· = b) w W1 := (hW ▸ Fr.setCell (S := (· = b)) _ _ rfl : Fr (· = b) w W).trans (T := (· = b)) (hW1 ▸ Fr.drewN k) (fun _ _ h => h)
  have Hfr1 := Lib.hid hfr1
  have HW1 := Lib.hid hW1
  have d0 := hbk2.c0
  have d1 := hbk2.c1
  clear hW1 hW hbk1 hbk hfr1
  go_wp2_with fail
  have hnb : bo ≠ b := fun e => hbo e.symm
  have hoW : Buf T' R' B bo qo vo lo W1 := by
    obtain ⟨p1, ⟨lr', p2⟩, p3, p4⟩ := ho
    refine ⟨p1, ⟨lr', p2.of_heap (Hfr1.out.block bo p2.lt (fun e => hnb e))⟩, ⟨p3.1, ?_⟩, p4⟩
    rcases p3.2 with p | ⟨g', cap', cur', e1, e2, e3, r⟩
    · exact .inl p
    · exact .inr ⟨g', cap', cur', e1, e2, Hfr1.out.keep e3 (fun e => by subst e; exact hvb (by rw [e1]; rfl)), r⟩
  have hsrc : At W1 ⟨g, 0, none⟩ l := by
    have hg1 := Hfr1.out.keep hg hgb
    have := Lib.cells_of_row hg1 l.length
    rw [ht] at this
    exact this
  have HoW := Lib.hid hoW
  have Hsrc := Lib.hid hsrc
  have Ho := Lib.hid ho
  have Ht := Lib.hid ht
  clear hoW hsrc ho ht
  have hBW : B ≤ W1.heap.size := Nat.le_trans hB Hfr1.out.size
  go_region_held3 (fun w' => w'.cell? ⟨b, q, none⟩ = some (.slice (some ⟨g, 0, none⟩) l.length cap) ∧ w'.cell? ⟨b, q + 1, none⟩ = some (.int .i64 0)) ((constructor <;> assumption)) (first | (go_at_call 37; refine (buf_write T' R' B bo qo vo lo l ⟨g, 0, none⟩ l.length cap _ (by exact HoW.out) (by exact hBW) rfl h1 hgbo (by exact Hsrc.out) hlim).mono ?_; rintro e w2 ⟨rfl, vo', hbuf, hstep, hfr⟩; have hbk3 := hbk2.of_heap (show w2.heap[b]? = W1.heap[b]? from hfr.block b hbk2.lt (by rintro (e | e); exact hbo e; exact hvb e)); have s0 := hbk3.c0; have s1 := hbk3.c1))
  have hbk3 := hbk2.of_heap (show w2.heap[b]? = W1.heap[b]? from hfr.block b hbk2.lt (by rintro (e | e); exact hbo e; exact hvb e))
  have s1f : w2.frozen? ⟨b, q + 1, none⟩ = false := hbk3.f (q + 1)
  have hbk4 := hbk3.set1 (.int .i64 l.length)
  have Hbuf := Lib.hid hbuf
  have Hfr := Lib.hid hfr
  have Hstep := Lib.hid hstep
  clear hbuf hfr hstep d0 d1 hna hme
  go_wp2_with fail
  refine (reset_at b q _ l.length cap _ _ _ hbk4.c0 hbk4.c1 hbk4.c2 hbk4.f hlc (by omega)).mono ?_
  rintro e w3 ⟨rfl, hw3⟩
  have hbk5 := (((hbk4.set0 (.slice (some ⟨g, 0, none⟩) 0 cap)).set1 (.int .i64 0)).set2 (.int .i8 0))
  rw [← hw3] at hbk5
  have hfr5 : Fr (· = b) w2 w3 := by
    rw [hw3]
    exact (((Fr.setCell (S := (· = b)) _ _ rfl).trans (Fr.setCell (S := (· = b)) _ _ rfl) (fun _ _ h => h)).trans (Fr.setCell (S := (· = b)) _ _ rfl) (fun _ _ h => h)).trans (Fr.setCell (S := (· = b)) _ _ rfl) (fun _ _ h => h)
  clear hw3 hbk4 hbk3
  go_wp2
  go_ret2
  have hsz1 := Hfr1.out.size
  refine ⟨rfl, hbk5, vo', ?_, ?_, ?_⟩
  · obtain ⟨p1, ⟨lr', p2⟩, p3, p4⟩ := Hbuf.out
    refine ⟨p1, ⟨lr', p2.of_heap (hfr5.block bo p2.lt (fun e => hnb e))⟩, ⟨p3.1, ?_⟩, p4⟩
    rcases p3.2 with p | ⟨g', cap', cur', e1, e2, e3, r⟩
    · exact .inl p
    · refine .inr ⟨g', cap', cur', e1, e2, hfr5.keep e3 (fun e => ?_), r⟩
      have e' : g' = b := e
      rcases Hstep.out with h | ⟨g2, hg2, h⟩
      · exact hvb (by rw [← h, e1]; exact congrArg some e')
      · rw [e1] at h
        have e4 : g' = g2 := Option.some.inj h
        have := hbk2.lt
        have hg3 : W1.heap.size ≤ g2 := hg2
        omega
  · rcases Hstep.out with h | ⟨g2, hg2, h⟩
    · exact .inl h
    · exact .inr ⟨g2, Nat.le_trans hsz1 hg2, h⟩
  · refine (Hfr1.out.mono (T := fun k => k = b ∨ k = bo ∨ vo.ownBlock = some k) (fun _ _ h => .inl h)).trans ((Fr.drew (S := fun k => k = bo ∨ vo.ownBlock = some k)).trans Hfr.out (fun _ _ h => h)) (fun _ _ h => .inr h) |>.trans hfr5 (fun _ _ h => .inl h)
end Go.Proofs.YtempflfhlbojgaaDoor
