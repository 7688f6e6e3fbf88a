/-
  The walk of armoredReader.Read where all is read: io.EOF.
-/
import Derived.Test.YtempflfhlbojgaaDoorRNw
namespace Go.Proofs.YtempflfhlbojgaaDoor
open Go.RowKit

theorem neq_nil (t : TypeId) (v : Value) (w : World) : (binOp .neq 44 (.iface t v) .nilIface).run Tryd.prog w = .ok (.bool true) w := by
  have h : ∀ d : Nat, (Op.equalIn (d + 1) 44 (.iface t v) .nilIface).run Tryd.prog w = .ok false w := fun d => by simp [Op.equalIn, run_underlying Tryd.underlying44]
  simp only [binOp]
  simp [Op.equal, Op.maxDepth, h 9999]

set_option maxHeartbeats 4000000 in
set_option maxRecDepth 100000 in
theorem armread_end (arb rb : Nat) (st : Bool) (a : Option Addr) (c : Nat) (p : Value) (E : Value) (w : World) (har : Ar arb rb st (.slice a 0 c) (.iface 108 E) w) :
    Calls Tryd.prog 63 #[.pointer (some ⟨arb, 0, none⟩), p] w fun e w' => e = .returned (.tuple #[.int .i64 0, .iface 108 E]) ∧ Fr (fun _ => False) w w' := by
  have fA : Fr (fun _ => False) w (w.alloc (.cells #[.pointer (some ⟨arb, 0, none⟩)] 65)) := Fr.alloc _
  obtain ⟨c0, c1, c2, c51, fz, hlt⟩ := (har.fr fA (fun h => h)).cells
  have hne := neq_nil 108 E
  have FA := Lib.hid fA
  clear har fA
  go_enter Tryd.func63, Tryd.ntmps63
  go_wp2_with fail
  go_quiet (fail)
  go_wp2_with fail
  go_ret2
  exact ⟨rfl, FA.out.trans (Fr.drewN (S := fun _ => False) _) (fun _ _ h => h)⟩
end Go.Proofs.YtempflfhlbojgaaDoor
