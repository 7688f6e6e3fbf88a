/-
  The walk of writeWrapped: the signs that are handed in go onto the file's buffer in lines of 64.
-/
import Derived.Test.YtempflfhlbojgaaDoorBufT
import Derived.Test.YtempflfhlbojgaaDoorPlain
import Derived.Lib.SlBytesConst
import Derived.Deep.LoopGhost
namespace Go.Proofs.YtempflfhlbojgaaDoor
open Go.RowKit

theorem RowStep.refl (w : World) (v : Value) : RowStep w v v := .inl rfl
theorem RowStep.trans {w w' : World} {v v' v'' : Value} (h : RowStep w v v') (k : RowStep w' v' v'') (hs : w.heap.size ≤ w'.heap.size) : RowStep w v v'' := by
  rcases k with k | ⟨g, hg, k⟩
  · rcases h with h | ⟨g, hg, h⟩
    · exact .inl (k.trans h)
    · exact .inr ⟨g, hg, k.trans h⟩
  · exact .inr ⟨g, Nat.le_trans hs hg, k⟩
theorem RowStep.ne {w : World} {v v' : Value} (h : RowStep w v v') {x : Nat} (hx : v.ownBlock ≠ some x) (hl : x < w.heap.size) : v'.ownBlock ≠ some x := by
  rcases h with h | ⟨g, hg, h⟩
  · rw [h]; exact hx
  · rw [h]; intro e; have := Option.some.inj e; omega

theorem Buf.fr {T : TypeId} {R : Nat → Option Value} {B b o : Nat} {v : Value} {l : List UInt8} {w w' : World} {S : Nat → Prop} (h : Buf T R B b o v l w) (hf : Fr S w w') (hb : ¬ S b) (hv : ∀ g, v.ownBlock = some g → ¬ S g) : Buf T R B b o v l w' := by
  obtain ⟨p1, ⟨lr', p2⟩, p3, p4⟩ := h
  refine ⟨p1, ⟨lr', p2.of_heap (hf.block b p2.lt hb)⟩, ⟨p3.1, ?_⟩, p4⟩
  rcases p3.2 with p | ⟨g', cap', cur', e1, e2, e3, r⟩
  · exact .inl p
  · exact .inr ⟨g', cap', cur', e1, e2, hf.keep e3 (hv g' (by rw [e1]; rfl)), r⟩

theorem Buf.row_lt {T : TypeId} {R : Nat → Option Value} {B b o : Nat} {v : Value} {l : List UInt8} {w : World} (h : Buf T R B b o v l w) {g : Nat} (hg : v.ownBlock = some g) : g < w.heap.size := by
  obtain ⟨p1, ⟨lr', p2⟩, p3, p4⟩ := h
  rcases p3.2 with p | ⟨g', cap', cur', e1, e2, e3, r⟩
  · rw [p.1] at hg; simp [Value.ownBlock] at hg
  · rw [e1] at hg
    have : g' = g := Option.some.inj hg
    subst this
    exact (Array.getElem?_eq_some_iff.1 e3).1

theorem Buf.lt {T : TypeId} {R : Nat → Option Value} {B b o : Nat} {v : Value} {l : List UInt8} {w : World} (h : Buf T R B b o v l w) : b < w.heap.size := by
  obtain ⟨_, ⟨_, p2⟩, _⟩ := h
  exact p2.lt

/-- The other fields of a WrappedBase64Encoder. -/
def RW (enc dst : Value) (n : Nat) : Nat → Option Value
  | 0 => some enc
  | 1 => some dst
  | 2 => some (.int .i64 n)
  | _ => none

theorem three_written {b : Nat} {enc dst x y z : Value} {n m : Nat} {w : World} (h : LibA.Three w b 3 84 (RW enc dst n) x y z) : LibA.Three (w.setCell ⟨b, 2, none⟩ (.int .i64 m)) b 3 84 (RW enc dst m) x y z := by
  obtain ⟨cs, hb, h0, h1, h2, hr⟩ := h
  have e2 := hr 2 (by omega)
  have hlt : 2 < cs.size := (Array.getElem?_eq_some_iff.1 e2).1
  refine ⟨_, Lib.heap_setCell_same (i := 2) hb _, by rw [Array.getElem?_setIfInBounds_ne (by omega)]; exact h0, by rw [Array.getElem?_setIfInBounds_ne (by omega)]; exact h1, by rw [Array.getElem?_setIfInBounds_ne (by omega)]; exact h2, fun i hi => ?_⟩
  by_cases hi2 : i = 2
  · subst hi2
    simp [hlt, RW]
  · rw [Array.getElem?_setIfInBounds_ne (fun e => hi2 e.symm), hr i hi]
    match i, hi2 with
    | 0, _ => rfl
    | 1, _ => rfl
    | i + 3, _ => rfl

theorem Buf.written {B b : Nat} {enc dst v : Value} {n m : Nat} {l : List UInt8} {w : World} (h : Buf 84 (RW enc dst n) B b 3 v l w) : Buf 84 (RW enc dst m) B b 3 v l (w.setCell ⟨b, 2, none⟩ (.int .i64 m)) := by
  obtain ⟨p1, ⟨lr', p2⟩, p3, p4⟩ := h
  refine ⟨p1, ⟨lr', three_written p2⟩, ⟨p3.1, ?_⟩, p4⟩
  rcases p3.2 with p | ⟨g', cap', cur', e1, e2, e3, r⟩
  · exact .inl p
  · refine .inr ⟨g', cap', cur', e1, e2, ?_, r⟩
    rw [Below.heap_setCell _ _ _ _ (fun e => p4 (by rw [e1]; exact congrArg some e))]
    exact e3

theorem wrap_chunk (ps : List UInt8) (n k t : Nat) (hk : k < ps.length) (ht : t = min (64 - (n + k) % 64) (ps.length - k)) :
    wrap n (ps.take (k + t)) = wrap n (ps.take k) ++ ((ps.drop k).take t ++ if (n + k + t) % 64 = 0 then [10] else []) := by
  have hl : ((ps.drop k).take t).length = t := by simp; omega
  have e : ps.take (k + t) = ps.take k ++ (ps.drop k).take t := by rw [List.take_add]
  rw [e, wrap_append]
  congr 1
  have hkl : (ps.take k).length = k := by simp; omega
  rw [hkl]
  by_cases h : (n + k + t) % 64 = 0
  · rw [if_pos h]
    exact wrap_fill _ _ (by intro e; rw [e] at hl; simp at hl; omega) (by omega)
  · rw [if_neg h, List.append_nil]
    exact wrap_short _ _ (by omega)

theorem At.drop {w : World} {b o : Nat} {ps : List UInt8} (h : At w ⟨b, o, none⟩ ps) (k t : Nat) : At w ⟨b, o + k, none⟩ ((ps.drop k).take t) := by
  refine At.mk fun i hi => ?_
  simp only [List.length_take, List.length_drop] at hi
  have h1 := h.cell (i := k + i) (by omega)
  rw [show o + k + i = o + (k + i) from by omega, h1]
  simp

/-- The conversion of a literal of bytes. -/
theorem conv_const (w : World) (g : Nat) (C : Array Value) (n c : Nat) (hg : w.heap.size = g) :
    (convert 22 22 (.slice (some ⟨g, 0, none⟩) n c)).run Tryd.prog (w.alloc (.cells C 5)) = .ok (.slice (some ⟨g, 0, none⟩) n c) (w.alloc (.cells C 5 (C.size, C.size + 1))) := by
  subst hg
  exact Lib.run_convert_bytes_const (P := Tryd.prog) w 22 5 C n c Tryd.underlying22 Tryd.underlying5

theorem wrap_length_le : ∀ (l : List UInt8) (k : Nat), (wrap k l).length ≤ 2 * l.length
  | [], _ => by simp [wrap]
  | c :: l, k => by
    have ih := wrap_length_le l (k + 1)
    simp only [wrap, List.length_cons]
    split <;> simp <;> omega

/-- What stands at the head of each round of writeWrapped's loop. -/
def WLoop (B bw bo n pb po c : Nat) (enc v0 _vo : Value) (ps _out : List UInt8) (w : World) (p1 : Value) (wr : World) (k : Nat) : Prop :=
  ∃ a' v, k ≤ ps.length ∧ p1 = .slice a' (ps.length - k) (c - k) ∧ (k < ps.length → a' = some ⟨pb, po + k, none⟩) ∧
    Buf 84 (RW enc (.iface 61 (.pointer (some ⟨bo, 0, none⟩))) (n + k)) B bw 3 v (wrap n (ps.take k)) wr ∧ RowStep w v0 v ∧ Fr (fun i => i = bw ∨ v0.ownBlock = some i) w wr

theorem wloop_next {B bw bo n pb po c : Nat} {enc v0 vo : Value} {ps out : List UInt8} {w wr : World} {k t N M L X : Nat} {a : Option Addr} {v : Value} {x : List UInt8} (hM : M = ps.length - k) (hN : N = n + k) (hk : k < ps.length) (ht : t ≤ M)
    (hL : L = M - t) (hX : X = c - k - t) (ha : t < M → a = some ⟨pb, po + k + t, none⟩) (hb : Buf 84 (RW enc (.iface 61 (.pointer (some ⟨bo, 0, none⟩))) (N + t)) B bw 3 v x wr) (hx : x = wrap n (ps.take (k + t)))
    (hs : RowStep w v0 v) (hf : Fr (fun i => i = bw ∨ v0.ownBlock = some i) w wr) : WLoop B bw bo n pb po c enc v0 vo ps out w (.slice a L X) wr (k + t) := by
  refine ⟨a, v, by omega, by rw [hL, hX]; congr 1 <;> omega, fun h => by rw [ha (by omega)]; congr 2; omega, ?_, hs, hf⟩
  rw [← hx, show n + (k + t) = N + t from by omega]
  exact hb

set_option maxHeartbeats 4000000 in
set_option maxRecDepth 100000 in
theorem wrapped_any (B bw bo n pb po c : Nat) (enc v0 vo : Value) (ps out : List UInt8) (w : World)
    (hb : Buf 84 (RW enc (.iface 61 (.pointer (some ⟨bo, 0, none⟩))) n) B bw 3 v0 [] w) (ho : Buf 56 (fun _ => none) B bo 0 vo out w) (hne : bw ≠ bo) (hv1 : v0.ownBlock ≠ some bo) (hv2 : vo.ownBlock ≠ some bw)
    (hv3 : ∀ g, v0.ownBlock = some g → vo.ownBlock ≠ some g) (hB : B ≤ w.heap.size) (hps : At w ⟨pb, po, none⟩ ps) (hpw : pb ≠ bw) (hpv : v0.ownBlock ≠ some pb) (hL : 1 ≤ ps.length) (hL2 : ps.length ≤ 4096) (hc : ps.length ≤ c) (hc2 : c ≤ 100000)
    (hn : n ≤ 100000) (hout : out.length ≤ 200000) :
    Calls Tryd.prog 33 #[.pointer (some ⟨bw, 0, none⟩), .slice (some ⟨pb, po, none⟩) ps.length c] w fun e w' => e = .returned (.tuple #[.int .i64 ps.length, .nilIface]) ∧
      ∃ v' vo', Buf 84 (RW enc (.iface 61 (.pointer (some ⟨bo, 0, none⟩))) (n + ps.length)) B bw 3 v' [] w' ∧ Buf 56 (fun _ => none) B bo 0 vo' (out ++ wrap n ps) w' ∧ RowStep w v0 v' ∧ RowStep w vo vo' ∧
        (∀ g, v'.ownBlock = some g → vo'.ownBlock ≠ some g) ∧ Fr (fun i => i = bw ∨ i = bo ∨ v0.ownBlock = some i ∨ vo.ownBlock = some i) w w' := by
  obtain ⟨hBb, lr, hbk, hcs⟩ := hb.cases
  have hz : ∃ ao cp, v0 = .slice ao 0 cp ∧ cp ≤ maxLen := by
    rcases hcs with ⟨_, e⟩ | ⟨g, cap, cur, e, _, _, _, hm, _⟩
    · exact ⟨none, 0, e, Nat.zero_le _⟩
    · exact ⟨_, cap, e, hm⟩
  obtain ⟨ao, cp, hv0, hcp⟩ := hz
  have c3 : w.cell? ⟨bw, 3, none⟩ = some (.slice ao 0 cp) := by rw [← hv0]; exact hbk.c0
  have c4 : w.cell? ⟨bw, 3 + 1, none⟩ = some (.int .i64 0) := hbk.c1
  have Hb := Lib.hid hb
  have Ho := Lib.hid ho
  have Hps := Lib.hid hps
  have Hv0 := Lib.hid hv0
  clear hb ho hps hcs hbk hv0
  have kc := fun w g C n c hg => conv_const w g C n c hg
  go_enter Tryd.func33, Tryd.ntmps33
  go_wp2_with fail
  refine (len_at bw 3 ao 0 cp 0 _ c3 c4 (by omega) (Nat.le_refl _)).mono ?_
  rintro e W1 ⟨rfl, q, hW1⟩
  rw [show ((0 - 0 : Nat) : Int) = 0 from rfl]
  have hfr1 : Fr (fun i => i = bw ∨ v0.ownBlock = some i) w W1 := hW1 ▸ Fr.drewN q
  have hb1 : Buf 84 (RW enc (.iface 61 (.pointer (some ⟨bo, 0, none⟩))) n) B bw 3 v0 [] W1 := hW1 ▸ Hb.out
  have Hfr1 := Lib.hid hfr1
  have Hb1 := Lib.hid hb1
  clear hW1 hfr1 hb1 c3 c4
  go_wp2_with fail
  go_loopw [1, 7, 8, 9] (fun p1 _ _ _ wr => ∃ k, WLoop B bw bo n pb po c enc v0 vo ps out w p1 wr k) (fun p1 _ _ _ _ => match p1 with | .slice _ l _ => l | _ => 0)
  case atStart => exact ⟨0, _, v0, Nat.zero_le _, rfl, fun _ => rfl, Hb1.out, RowStep.refl _ _, Hfr1.out⟩
  case round =>
    obtain ⟨k, a', v, hk, rfl, ha', hbv, hstep, hfr⟩ := hrel
    by_cases hkL : k < ps.length
    · obtain rfl := ha' hkL
      obtain ⟨N, hN⟩ : ∃ N, N = n + k := ⟨_, rfl⟩
      have c2 : wr.cell? ⟨bw, 2, none⟩ = some (.int .i64 (N : Int)) := by
        obtain ⟨_, ⟨_, t3⟩, _⟩ := hbv
        rw [hN]
        exact t3.rest 2 (by omega)
      have f2 : wr.frozen? ⟨bw, 2, none⟩ = false := by
        obtain ⟨_, ⟨_, t3⟩, _⟩ := hbv
        exact t3.f 2
      obtain ⟨M, hM⟩ : ∃ M, M = ps.length - k := ⟨_, rfl⟩
      have hM1 : 1 ≤ M := by omega
      have hM2 : M ≤ 4096 := by omega
      have hNb : N ≤ 200000 := by omega
      rw [← hM]
      have HM := Lib.hid hM
      have HN := Lib.hid hN
      have Hbv := Lib.hid hbv
      have Hstep := Lib.hid hstep
      have Hfr := Lib.hid hfr
      clear hM hN hbv hstep hfr ha'
      obtain ⟨t, htt⟩ : ∃ t, t = min (64 - N % 64) M := ⟨_, rfl⟩
      have ht : min (64 - (N : Int) % 64) (M : Int) = (t : Int) := by omega
      have ht1 : 1 ≤ t := by omega
      have ht2 : t ≤ c - k := by have := HM.out; omega
      have ht3 : (t : Int) ≤ (c - k : Nat) := by omega
      have htM : t ≤ M := by omega
      have Htt := Lib.hid htt
      clear htt
      go_wp2_with fail
      have hrow : v.ownBlock ≠ some pb := Hstep.out.ne hpv (by
        have := Hps.out.cell (i := 0) (by omega)
        exact World.block_lt_of_cell? w _ this)
      have hBr : B ≤ wr.heap.size := Nat.le_trans hB Hfr.out.size
      have hpsr : At wr ⟨pb, po + k, none⟩ ((ps.drop k).take t) := (Hps.out.fr Hfr.out (by rintro (e | e); exact hpw e; exact hpv e)).drop k t
      have hlr : ((ps.drop k).take t).length = t := by have := HM.out; simp; omega
      have hwl : (wrap n (ps.take k)).length + t ≤ 900000 := by have := wrap_length_le (ps.take k) n; rw [List.length_take] at this; omega
      have Hpsr := Lib.hid hpsr
      have Hlr := Lib.hid hlr
      clear hpsr hlr
      go_region_with (first | (go_at_call 37; refine (buf_write 84 (RW enc (.iface 61 (.pointer (some ⟨bo, 0, none⟩))) (n + k)) B bw 3 v (wrap n (ps.take k)) ((ps.drop k).take t) ⟨pb, po + k, none⟩ t (c - k) _ (by exact Hbv.out) (by exact hBr) Hlr.out ht1 hpw (by exact Hpsr.out) (by omega)).mono ?_; rintro e w2 ⟨rfl, v2, hb2, hst2, hfr2⟩))
      have hb3 : Buf 84 (RW enc (.iface 61 (.pointer (some ⟨bo, 0, none⟩))) N) B bw 3 v2 (wrap n (ps.take k) ++ (ps.drop k).take t) w2 := by rw [HN.out]; exact hb2
      have d2 : w2.cell? ⟨bw, 2, none⟩ = some (.int .i64 (N : Int)) := by
        obtain ⟨_, ⟨_, t3⟩, _⟩ := hb3
        exact t3.rest 2 (by omega)
      have e2 : w2.frozen? ⟨bw, 2, none⟩ = false := by
        obtain ⟨_, ⟨_, t3⟩, _⟩ := hb3
        exact t3.f 2
      have hb4 := hb3.written (m := N + t)
      have hrs2 : RowStep w v0 v2 := Hstep.out.trans hst2 Hfr.out.size
      have hfr4 : Fr (fun i => i = bw ∨ v0.ownBlock = some i) w (w2.setCell ⟨bw, 2, none⟩ (.int .i64 (N + t : Nat))) := by
        refine (Hfr.out.trans (T := fun i => i = bw ∨ v.ownBlock = some i) ((Fr.drew (S := fun i => i = bw ∨ v.ownBlock = some i)).trans hfr2 (fun _ _ h => h)) (fun i hi h => ?_)).trans (Fr.setCell (S := fun i => i = bw) _ _ rfl) (fun _ _ h => .inl h)
        rcases h with h | h
        · exact .inl h
        · rcases Hstep.out with h' | ⟨g, hg, h'⟩
          · exact .inr (by rw [← h']; exact h)
          · rw [h'] at h; have := Option.some.inj h; omega
      have hwc := wrap_chunk ps n k t hkL (by rw [Htt.out, HN.out, HM.out])
      have Hb4 := Lib.hid hb4
      have Hrs2 := Lib.hid hrs2
      have Hfr4 := Lib.hid hfr4
      have Hwc := Lib.hid hwc
      clear hb2 hb3 hb4 hst2 hfr2 hrs2 hfr4 hwc c2 f2
      have hw2 : bw < w2.heap.size := World.block_lt_of_cell? w2 _ d2
      by_cases hnl : (N + t) % 64 = 0
      · have hnb : (((N : Int) + (t : Int)) % 64 == 0) = true := by simp; omega
        have hnl2 : (n + k + t) % 64 = 0 := by have := HN.out; omega
        have hb5 := (Hb4.out.fr (Fr.alloc (S := fun _ => False) (.cells #[.int .u8 10] 5 (1, 2))) (fun h => h) (fun _ _ h => h))
        have hat : At ((w2.setCell ⟨bw, 2, none⟩ (.int .i64 (N + t : Nat))).alloc (.cells #[.int .u8 10] 5 (1, 2))) ⟨w2.heap.size, 0, none⟩ [10] := by
          refine At.mk fun i hi => ?_
          obtain rfl : i = 0 := by simpa using hi
          have := heap_alloc_new (w2.setCell ⟨bw, 2, none⟩ (.int .i64 (N + t : Nat))) (.cells #[.int .u8 10] 5 (1, 2))
          rw [show (w2.setCell ⟨bw, 2, none⟩ (.int .i64 (N + t : Nat))).heap.size = w2.heap.size from by simp [World.setCell]] at this
          rw [cell_of_row _ _ _ _ _ _ this]; rfl
        have hBr5 : B ≤ ((w2.setCell ⟨bw, 2, none⟩ (.int .i64 (N + t : Nat))).alloc (.cells #[.int .u8 10] 5 (1, 2))).heap.size := by
          have := Hfr4.out.size
          have h2 := (Fr.alloc (S := fun _ => False) (w := w2.setCell ⟨bw, 2, none⟩ (.int .i64 (N + t : Nat))) (.cells #[.int .u8 10] 5 (1, 2))).size
          omega
        have Hb5 := Lib.hid hb5
        have Hat := Lib.hid hat
        have Hbr5 := Lib.hid hBr5
        clear hnl hb5 hat hBr5
        by_cases hct : c - k = t
        all_goals
          go_wp2_with fail
          refine (buf_write 84 (RW enc (.iface 61 (.pointer (some ⟨bo, 0, none⟩))) (N + t)) B bw 3 v2 (wrap n (ps.take k) ++ (ps.drop k).take t) [10] ⟨w2.heap.size, 0, none⟩ 1 1 _ (by exact Hb5.out) (by exact Hbr5.out) rfl (Nat.le_refl _) (by show w2.heap.size ≠ bw; omega) (by exact Hat.out) (by have h1 := Hlr.out; rw [List.length_append]; omega)).mono ?_
          rintro e w6 ⟨rfl, v6, hb6, hst6, hfr6⟩
          have Hb6 := Lib.hid hb6
          have Hst6 := Lib.hid hst6
          have Hfr6 := Lib.hid hfr6
          clear hb6 hst6 hfr6
          go_wp2_with fail
          refine ⟨⟨k + t, wloop_next HM.out HN.out hkL htM rfl ?_ ?_ Hb6.out ?_ ?_ ?_⟩, ?_⟩
          · first | rfl | omega
          · first | exact fun _ => rfl | (intro h; have := HM.out; omega)
          · rw [Hwc.out, if_pos hnl2, ← List.append_assoc]
          · exact Hrs2.out.trans Hst6.out (Nat.le_trans Hfr4.out.size (Fr.alloc (S := fun _ => False) _).size)
          · refine Hfr4.out.trans ((Fr.alloc (S := fun i => i = bw ∨ v2.ownBlock = some i) _).trans Hfr6.out (fun _ _ h => h)) (fun i hi h => ?_)
            rcases h with h | h
            · exact .inl h
            · rcases Hrs2.out with h' | ⟨g, hg, h'⟩
              · exact .inr (by rw [← h']; exact h)
              · rw [h'] at h; have := Option.some.inj h; omega
          · simp; omega
      · have hnb : (((N : Int) + (t : Int)) % 64 == 0) = false := by simp; omega
        have hnl2 : ¬ (n + k + t) % 64 = 0 := by have := HN.out; omega
        by_cases hct : c - k = t
        all_goals
          go_wp2_with fail
          refine ⟨⟨k + t, wloop_next HM.out HN.out hkL htM rfl ?_ ?_ Hb4.out ?_ Hrs2.out Hfr4.out⟩, ?_⟩
          · first | rfl | omega
          · first | exact fun _ => rfl | (intro h; have := HM.out; omega)
          · rw [Hwc.out, if_neg hnl2, List.append_nil]
          · simp; omega
    · obtain rfl : k = ps.length := by omega
      rw [Nat.sub_self]
      have hfull : ps.take ps.length = ps := List.take_of_length_le (Nat.le_refl _)
      rw [hfull] at hbv
      have hwne : 1 ≤ (wrap n ps).length := by
        cases ps with
        | nil => simp at hL
        | cons x r => simp [wrap]
      have hwle := wrap_length_le ps n
      obtain ⟨hBb2, lr2, hbk2, hcs2⟩ := hbv.cases
      have hor : Buf 56 (fun _ => none) B bo 0 vo out wr := Ho.out.fr hfr (by rintro (e | e); exact hne e.symm; exact hv1 e) (fun g hg => by rintro (e | e); exact hv2 (by rw [hg, e]); exact hv3 g e hg)
      rcases hcs2 with ⟨e0, _⟩ | ⟨g, cap, cur, rfl, hBg, hg, hlc, hcm, hcsz, ht, hgb⟩
      · rw [e0] at hwne; simp at hwne
      have hgo : g ≠ bo := fun e => hstep.ne hv1 Ho.out.lt (by rw [e]; rfl)
      have hvg : ∀ x, vo.ownBlock = some x → x ≠ g := fun x hx e => by
        subst e
        refine hstep.ne (x := x) (fun e2 => hv3 x e2 hx) (Ho.out.row_lt hx) rfl
      have hBr : B ≤ wr.heap.size := Nat.le_trans hB hfr.size
      have r1 : wr.cell? ⟨bw, 1, none⟩ = some (.iface 61 (.pointer (some ⟨bo, 0, none⟩))) := hbk2.rest 1 (by omega)
      have Hbk2 := Lib.hid hbk2
      have Hor := Lib.hid hor
      have Hg := Lib.hid hg
      have Hfr := Lib.hid hfr
      have Hstep := Lib.hid hstep
      have Ht := Lib.hid ht
      clear hbk2 hor hg hfr hstep ht hbv hfull ha'
      have Hvg := Lib.hid hvg
      clear hvg
      go_wp2_with fail
      go_region_held3 (fun w' => w'.cell? ⟨bw, 1, none⟩ = some (.iface 61 (.pointer (some ⟨bo, 0, none⟩)))) (assumption) (first | (go_at_call 38; refine (writeTo_at 84 _ 56 _ B bw 3 bo 0 g cap lr2 cur vo (wrap n ps) out _ (by exact Hbk2.out) hBb2 (by exact Hg.out) hlc hcm hcsz Ht.out hgb (by exact Hor.out) hne hgo hv2 (by exact hBr) hwne (by omega)).mono ?_; rintro e w7 ⟨rfl, hbk7, vo', hbuf7, hstep7, hfr7⟩; have r7 := hbk7.rest 1 (by omega)))
      have Hbk7 := Lib.hid hbk7
      have Hbuf7 := Lib.hid hbuf7
      have Hstep7 := Lib.hid hstep7
      have Hfr7 := Lib.hid hfr7
      clear hbk7 hbuf7 hstep7 hfr7 r1
      go_wp2_with fail
      go_ret2
      have hg7 : w7.heap[g]? = some (.cells cur 5 (0, 0)) := Hfr7.out.keep (show wr.drew.heap[g]? = _ from Hg.out) (by rintro (e | e | e); exact hgb e; exact hgo e; exact Hvg.out g e rfl)
      refine ⟨rfl, .slice (some ⟨g, 0, none⟩) 0 cap, vo', ?_, Hbuf7.out, ?_, ?_, ?_, ?_⟩
      · exact Buf.mk (l := []) hBb2 Hbk7.out hBg hg7 (Nat.zero_le _) hcm hcsz (by simp [Lib.byteCells]) hgb
      · rcases Hstep.out with h | ⟨x, hx, h⟩
        · exact .inl h
        · exact .inr ⟨x, hx, h⟩
      · rcases Hstep7.out with h | ⟨x, hx, h⟩
        · exact .inl h
        · exact .inr ⟨x, Nat.le_trans Hfr.out.size hx, h⟩
      · intro x hx hx2
        have e : g = x := Option.some.inj hx
        subst e
        rcases Hstep7.out with h | ⟨y, hy, h⟩
        · exact Hvg.out g (by rw [← h]; exact hx2) rfl
        · rw [h] at hx2
          have e2 := Option.some.inj hx2
          have h3 := (Array.getElem?_eq_some_iff.1 Hg.out).1
          have h4 : wr.heap.size ≤ y := hy
          omega
      · refine (Hfr.out.mono (T := fun i => i = bw ∨ i = bo ∨ v0.ownBlock = some i ∨ vo.ownBlock = some i) (fun i _ h => ?_)).trans ((Fr.drew (S := fun k => k = bw ∨ k = bo ∨ vo.ownBlock = some k)).trans Hfr7.out (fun _ _ h => h)) (fun i _ h => ?_)
        · rcases h with h | h
          · exact .inl h
          · exact .inr (.inr (.inl h))
        · rcases h with h | h | h
          · exact .inl h
          · exact .inr (.inl h)
          · exact .inr (.inr (.inr h))
#print axioms wrapped_any
end Go.Proofs.YtempflfhlbojgaaDoor
