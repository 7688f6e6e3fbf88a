/-
  The file that is written: what stands in it and how many signs went through the wrapping (Chain); what is written to it through the method value.
-/
import Derived.Test.YtempflfhlbojgaaDoorMake
namespace Go.Proofs.YtempflfhlbojgaaDoor
open Go.RowKit

/-- The wrapping writer at block bw (n signs went through it) over the buffer at block bo (that holds out); X: blocks that neither reaches. -/
def Chain (X : Nat → Prop) (B cb bw bo n : Nat) (out : List UInt8) (w : World) : Prop :=
  ∃ v vo, Buf 84 (RW (.iface 92 (.pointer (some ⟨cb, 0, none⟩))) (.iface 61 (.pointer (some ⟨bo, 0, none⟩))) n) B bw 3 v [] w ∧ Buf 56 (fun _ => none) B bo 0 vo out w ∧ bw ≠ bo ∧ v.ownBlock ≠ some bo ∧ vo.ownBlock ≠ some bw ∧
    (∀ g, v.ownBlock = some g → vo.ownBlock ≠ some g) ∧ B ≤ w.heap.size ∧ ∀ x, X x → x < w.heap.size ∧ x ≠ bw ∧ x ≠ bo ∧ v.ownBlock ≠ some x ∧ vo.ownBlock ≠ some x

theorem Chain.fr {X S : Nat → Prop} {B cb bw bo n : Nat} {out : List UInt8} {w w' : World} (h : Chain X B cb bw bo n out w) (hf : Fr S w w') (hS : ∀ k, S k → X k) : Chain X B cb bw bo n out w' := by
  obtain ⟨v, vo, h1, h2, h3, h4, h5, h6, h7, h8⟩ := h
  refine ⟨v, vo, h1.fr hf (fun h => (h8 _ (hS _ h)).2.1 rfl) (fun g hg hs => (h8 _ (hS _ hs)).2.2.2.1 hg), h2.fr hf (fun h => (h8 _ (hS _ h)).2.2.1 rfl) (fun g hg hs => (h8 _ (hS _ hs)).2.2.2.2 hg), h3, h4, h5, h6, Nat.le_trans h7 hf.size, fun x hx => ?_⟩
  obtain ⟨a, b⟩ := h8 x hx
  exact ⟨Nat.lt_of_lt_of_le a hf.size, b⟩

/-- Fewer blocks guarded. -/
theorem Chain.less {X Y : Nat → Prop} {B cb bw bo n : Nat} {out : List UInt8} {w : World} (h : Chain X B cb bw bo n out w) (hY : ∀ k, Y k → X k) : Chain Y B cb bw bo n out w := by
  obtain ⟨v, vo, h1, h2, h3, h4, h5, h6, h7, h8⟩ := h
  exact ⟨v, vo, h1, h2, h3, h4, h5, h6, h7, fun x hx => h8 x (hY x hx)⟩

/-- A new block guarded too. -/
theorem Chain.more {X : Nat → Prop} {B cb bw bo n : Nat} {out : List UInt8} {w w' : World} (h : Chain X B cb bw bo n out w) (hf : Fr (fun _ => False) w w') {x : Nat} (hx : w.heap.size ≤ x) (hx2 : x < w'.heap.size) : Chain (fun k => X k ∨ k = x) B cb bw bo n out w' := by
  obtain ⟨v, vo, h1, h2, h3, h4, h5, h6, h7, h8⟩ := h
  have hl1 := h1.lt
  have hl2 := h2.lt
  refine ⟨v, vo, h1.fr hf (fun h => h) (fun _ _ h => h), h2.fr hf (fun h => h) (fun _ _ h => h), h3, h4, h5, h6, Nat.le_trans h7 hf.size, fun y hy => ?_⟩
  rcases hy with hy | rfl
  · obtain ⟨a, b⟩ := h8 y hy
    exact ⟨Nat.lt_of_lt_of_le a hf.size, b⟩
  · exact ⟨hx2, by omega, by omega, fun e => by have := h1.row_lt e; omega, fun e => by have := h2.row_lt e; omega⟩

set_option maxHeartbeats 4000000 in
set_option maxRecDepth 100000 in
/-- writeWrapped, told on Chain. -/
theorem chain_wrapped (X : Nat → Prop) (B cb bw bo n pb po c : Nat) (ps out : List UInt8) (w : World) (h : Chain X B cb bw bo n out w) (hps : At w ⟨pb, po, none⟩ ps) (hX : X pb) (hL : 1 ≤ ps.length) (hL2 : ps.length ≤ 4096) (hc : ps.length ≤ c) (hc2 : c ≤ 100000) (hn : n ≤ 100000) (hout : out.length ≤ 200000) :
    Calls Tryd.prog 33 #[.pointer (some ⟨bw, 0, none⟩), .slice (some ⟨pb, po, none⟩) ps.length c] w fun e w' => e = .returned (.tuple #[.int .i64 ps.length, .nilIface]) ∧ Chain X B cb bw bo (n + ps.length) (out ++ wrap n ps) w' ∧ Fr (fun k => ¬ X k) w w' := by
  obtain ⟨v, vo, h1, h2, h3, h4, h5, h6, h7, h8⟩ := h
  obtain ⟨p1, p2, p3, p4, p5⟩ := h8 pb hX
  refine (wrapped_any B bw bo n pb po c _ v vo ps out w h1 h2 h3 h4 h5 h6 h7 hps p2 p4 hL hL2 hc hc2 hn hout).mono ?_
  rintro e w' ⟨rfl, v', vo', k1, k2, k3, k4, k5, k6⟩
  refine ⟨rfl, ⟨v', vo', k1, k2, h3, k3.ne h4 h2.lt, k4.ne h5 h1.lt, k5, Nat.le_trans h7 k6.size, fun x hx => ?_⟩, k6.mono (fun i _ hi hx => ?_)⟩
  · obtain ⟨q1, q2, q3, q4, q5⟩ := h8 x hx
    exact ⟨Nat.lt_of_lt_of_le q1 k6.size, q2, q3, k3.ne q4 q1, k4.ne q5 q1⟩
  · obtain ⟨q1, q2, q3, q4, q5⟩ := h8 i hx
    rcases hi with hi | hi | hi | hi
    · exact q2 hi
    · exact q3 hi
    · exact q4 hi
    · exact q5 hi

set_option maxHeartbeats 4000000 in
set_option maxRecDepth 100000 in
/-- WriterFunc.Write. -/
theorem wfunc_write (X : Nat → Prop) (B cb bw bo n pb po c : Nat) (ps out : List UInt8) (w : World) (h : Chain X B cb bw bo n out w) (hps : At w ⟨pb, po, none⟩ ps) (hX : X pb) (hL : 1 ≤ ps.length) (hL2 : ps.length ≤ 4096) (hc : ps.length ≤ c) (hc2 : c ≤ 100000) (hn : n ≤ 100000) (hout : out.length ≤ 200000) :
    Calls Tryd.prog 98 #[.func (.func 33) #[.pointer (some ⟨bw, 0, none⟩)] #[], .slice (some ⟨pb, po, none⟩) ps.length c] w fun e w' => e = .returned (.tuple #[.int .i64 ps.length, .nilIface]) ∧ Chain X B cb bw bo (n + ps.length) (out ++ wrap n ps) w' ∧ Fr (fun k => ¬ X k) w w' := by
  have Hh := Lib.hid h
  have Hps := Lib.hid hps
  clear h hps
  go_enter Tryd.func98, Tryd.ntmps98
  go_wp2_with fail
  refine (chain_wrapped X B cb bw bo n pb po c ps out _ (by exact Hh.out) (by exact Hps.out) hX hL hL2 hc hc2 hn hout).mono ?_
  rintro e w' ⟨rfl, k1, k2⟩
  have K1 := Lib.hid k1
  have K2 := Lib.hid k2
  clear k1 k2
  go_wp2_with fail
  go_ret2
  exact ⟨rfl, K1.out, K2.out⟩

/-- A write straight to the buffer. -/
theorem chain_out (X : Nat → Prop) (B cb bw bo n pb po m c : Nat) (cs out : List UInt8) (w : World) (h : Chain X B cb bw bo n out w) (hps : At w ⟨pb, po, none⟩ cs) (hm : cs.length = m) (h1 : 1 ≤ m) (hX : X pb) (hout : out.length + m ≤ 1000000) :
    Calls Tryd.prog 37 #[.pointer (some ⟨bo, 0, none⟩), .slice (some ⟨pb, po, none⟩) m c] w fun e w' => e = .returned (.tuple #[.int .i64 m, .nilIface]) ∧ Chain X B cb bw bo n (out ++ cs) w' ∧ Fr (fun k => ¬ X k) w w' := by
  obtain ⟨v, vo, h1, h2, h3, h4, h5, h6, h7, h8⟩ := h
  refine (buf_write 56 (fun _ => none) B bo 0 vo out cs ⟨pb, po, none⟩ m c w h2 h7 hm (by assumption) (h8 pb hX).2.2.1 hps hout).mono ?_
  rintro e w' ⟨rfl, vo', k1, k2, k3⟩
  have hS : ∀ i, i < w.heap.size → (i = bo ∨ vo.ownBlock = some i) → ¬ X i := by
    intro i _ hi hx
    obtain ⟨q1, q2, q3, q4, q5⟩ := h8 i hx
    rcases hi with hi | hi
    · exact q3 hi
    · exact q5 hi
  refine ⟨rfl, ⟨v, vo', h1.fr k3 ?_ ?_, k1, h3, h4, k2.ne h5 h1.lt, ?_, Nat.le_trans h7 k3.size, fun x hx => ?_⟩, k3.mono hS⟩
  · rintro (e | e)
    · exact h3 e
    · exact h5 e
  · rintro g hg (e | e)
    · exact h4 (by rw [hg, e])
    · exact h6 g hg e
  · intro g hg
    refine k2.ne (h6 g hg) (h1.row_lt hg)
  · obtain ⟨q1, q2, q3, q4, q5⟩ := h8 x hx
    exact ⟨Nat.lt_of_lt_of_le q1 k3.size, q2, q3, q4, k2.ne q5 q1⟩
end Go.Proofs.YtempflfhlbojgaaDoor
