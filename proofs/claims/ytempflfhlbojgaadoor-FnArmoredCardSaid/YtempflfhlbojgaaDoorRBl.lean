/-
  The walks of zzBlank: of the header's line, of nothing.
-/
import Derived.Test.YtempflfhlbojgaaDoorRDe
import Derived.Laws.IdiomStrings
import Derived.Laws.RangeString
namespace Go.Proofs.YtempflfhlbojgaaDoor
open Go.RowKit

/-- string(b) of bytes that stand at an address. -/
theorem string_of {g o n c : Nat} {l : List UInt8} {w : World} (hat : At w ⟨g, o, none⟩ l) (hl : l.length = n) : (convert 22 9 (.slice (some ⟨g, o, none⟩) n c)).run Tryd.prog w = .ok (.string ⟨l.toArray⟩) w := by
  subst hl
  exact run_convert_bytes_back w 22 9 5 ⟨g, o, none⟩ c l Tryd.underlying22 Tryd.underlying5 Tryd.underlying9 (fun j hj => by rw [Addr.add_mid]; exact hat.cell hj)

theorem fr_iter (w : World) (s : ByteArray) (p : Nat) : Fr (fun _ => False) w (w.iter s p) := Fr.alloc (.stringIter s p)

set_option maxHeartbeats 4000000 in
set_option maxRecDepth 100000 in
theorem blank_none (a : Option Addr) (c : Nat) (w : World) (hk : (convert 22 9 (.slice a 0 c)).run Tryd.prog w = .ok (.string ⟨#[]⟩) w) : Calls Tryd.prog 71 #[.slice a 0 c] w fun e w' => e = .returned (.bool true) ∧ Fr (fun _ => False) w w' := by
  have hn := fun ty => run_next_end (P := Tryd.prog) w ⟨#[]⟩ 0 ty (by decide)
  go_enter Tryd.func71, Tryd.ntmps71
  go_wp2_with fail
  refine wp_loop_rounds 1 ?_
  rw [rounds_succ]
  go_wp2_with fail
  go_ret
  exact ⟨rfl, fr_iter _ _ _⟩

set_option maxHeartbeats 4000000 in
set_option maxRecDepth 100000 in
theorem blank_head (a : Option Addr) (n c : Nat) (s : ByteArray) (w : World) (hk : (convert 22 9 (.slice a n c)).run Tryd.prog w = .ok (.string s) w) (hs : 0 < s.size) (h45 : s[0].toNat = 45) : Calls Tryd.prog 71 #[.slice a n c] w fun e w' => e = .returned (.bool false) ∧ Fr (fun _ => False) w w' := by
  have hn := fun ty => run_next_ascii (P := Tryd.prog) w s 0 ty hs (by omega)
  rw [h45] at hn
  go_enter Tryd.func71, Tryd.ntmps71
  go_wp2_with fail
  refine wp_loop_rounds 1 ?_
  rw [rounds_succ]
  go_wp2_with fail
  go_ret
  exact ⟨rfl, fr_iter _ _ _⟩
end Go.Proofs.YtempflfhlbojgaaDoor
