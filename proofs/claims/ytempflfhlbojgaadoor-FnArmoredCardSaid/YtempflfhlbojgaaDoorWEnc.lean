/-
  The walks of WrappedBase64Encoder's Write, Close, LastLineIsEmpty and of armoredWriter's methods.
-/
import Derived.Test.YtempflfhlbojgaaDoorCodW
import Derived.Test.YtempflfhlbojgaaDoorCodC
namespace Go.Proofs.YtempflfhlbojgaaDoor
open Go.RowKit

theorem nil_ahead92w (F : Nat) (a : Addr) (w : World) : (nilAhead (F + 1) 92 (.pointer (some a)) "Write").run Tryd.prog w = .ok (some false) w := by kernel_rfl
theorem method92w (F : Nat) (a : Addr) (w : World) : (method (F + 1) 92 (.pointer (some a)) "Write").run Tryd.prog w = .ok (100, .pointer (some a)) w := by kernel_rfl
theorem nil_ahead92c (F : Nat) (a : Addr) (w : World) : (nilAhead (F + 1) 92 (.pointer (some a)) "Close").run Tryd.prog w = .ok (some false) w := by kernel_rfl
theorem method92c (F : Nat) (a : Addr) (w : World) : (method (F + 1) 92 (.pointer (some a)) "Close").run Tryd.prog w = .ok (99, .pointer (some a)) w := by kernel_rfl

theorem Chain.cells {X : Nat → Prop} {B cb bw bo n : Nat} {out : List UInt8} {w : World} (h : Chain X B cb bw bo n out w) :
    w.cell? ⟨bw, 0, none⟩ = some (.iface 92 (.pointer (some ⟨cb, 0, none⟩))) ∧ w.cell? ⟨bw, 2, none⟩ = some (.int .i64 n) := by
  obtain ⟨v, vo, ⟨_, ⟨_, h1⟩, _⟩, _⟩ := h
  exact ⟨h1.rest 0 (by omega), h1.rest 2 (by omega)⟩

set_option maxHeartbeats 4000000 in
set_option maxRecDepth 100000 in
theorem wenc_write (X : Nat → Prop) (B cb eb bw bo n pb po c : Nat) (pend ps out : List UInt8) (w : World) (hp : Pend cb eb bw pend w) (hpl : pend.length ≤ 2) (hch : Chain X B cb bw bo n out w) (he : Enc eb w)
    (hXc : X cb) (hXe : X eb) (hXp : X pb) (hec : eb ≠ cb) (hpc : pb ≠ cb) (hps : At w ⟨pb, po, none⟩ ps) (L : Nat) (hl : ps.length = L) (hL1 : 1 ≤ L) (hL2 : L ≤ 5000) (hc : L ≤ c) (hc2 : c ≤ 9223372036854775807) (hn : n ≤ 50000) (hout : out.length ≤ 100000) :
    Calls Tryd.prog 96 #[.pointer (some ⟨bw, 0, none⟩), .slice (some ⟨pb, po, none⟩) L c] w fun e w' => e = .returned (.tuple #[.int .i64 L, .nilIface]) ∧
      ∃ q, q = (pend ++ ps).length / 3 * 3 ∧ Pend cb eb bw ((pend ++ ps).drop q) w' ∧ Chain X B cb bw bo (n + q / 3 * 4) (out ++ wrap n (b64 ((pend ++ ps).take q))) w' ∧ Fr (fun k => k = cb ∨ ¬ X k) w w' := by
  subst hl
  obtain ⟨c0, _⟩ := hch.cells
  have hna := fun F a w => nil_ahead92w F a w
  have hme := fun F a w => method92w F a w
  have key := coder_write X B cb eb bw bo n pb po c pend ps out w hp hpl hch he hXc hXe hXp hec hpc hps hL1 hL2 hc hc2 hn hout
  have Key := Lib.hid key
  clear key hp hch he hps
  go_enter Tryd.func96, Tryd.ntmps96
  go_wp2_with fail
  refine Key.out.mono ?_
  rintro e w' ⟨rfl, h⟩
  have H := Lib.hid h
  clear h
  go_wp2_with fail
  go_ret2
  exact ⟨rfl, H.out⟩

set_option maxHeartbeats 4000000 in
set_option maxRecDepth 100000 in
theorem wenc_close (X : Nat → Prop) (B cb eb bw bo n : Nat) (pend out : List UInt8) (w : World) (hp : Pend cb eb bw pend w) (hpl : pend.length ≤ 2) (hch : Chain X B cb bw bo n out w) (he : Enc eb w)
    (hXc : X cb) (hXe : X eb) (hec : eb ≠ cb) (hn : n ≤ 50000) (hout : out.length ≤ 100000) :
    Calls Tryd.prog 94 #[.pointer (some ⟨bw, 0, none⟩)] w fun e w' => e = .returned .nilIface ∧ Chain X B cb bw bo (n + (b64 pend).length) (out ++ wrap n (b64 pend)) w' ∧ Fr (fun k => k = cb ∨ ¬ X k) w w' := by
  obtain ⟨c0, _⟩ := hch.cells
  have hna := fun F a w => nil_ahead92c F a w
  have hme := fun F a w => method92c F a w
  have key := coder_close X B cb eb bw bo n pend out w hp hpl hch he hXc hXe hec hn hout
  have Key := Lib.hid key
  clear key hp hch he
  go_enter Tryd.func94, Tryd.ntmps94
  go_wp2_with fail
  refine Key.out.mono ?_
  rintro e w' ⟨rfl, h⟩
  have H := Lib.hid h
  clear h
  go_wp2_with fail
  go_ret
  exact ⟨rfl, H.out⟩

set_option maxHeartbeats 4000000 in
set_option maxRecDepth 100000 in
theorem lastLine_at (X : Nat → Prop) (B cb bw bo n : Nat) (out : List UInt8) (w : World) (hch : Chain X B cb bw bo n out w) (hn : n ≤ 100000) :
    Calls Tryd.prog 95 #[.pointer (some ⟨bw, 0, none⟩)] w fun e w' => e = .returned (.bool (decide (n % 64 = 0))) ∧ w' = w := by
  obtain ⟨_, c2⟩ := hch.cells
  clear hch
  go_enter Tryd.func95, Tryd.ntmps95
  go_wp2_with fail
  go_ret
  refine ⟨?_, rfl⟩
  have : ((n : Int) % 64 == 0) = decide (n % 64 = 0) := by
    by_cases h : n % 64 = 0
    · rw [decide_eq_true h]; simp; omega
    · rw [decide_eq_false h]; simp; omega
  simp [this]
end Go.Proofs.YtempflfhlbojgaaDoor
