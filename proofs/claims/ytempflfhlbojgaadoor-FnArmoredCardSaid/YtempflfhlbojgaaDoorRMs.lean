/-
  The walk of armors: a small file is read.
-/
import Derived.Test.YtempflfhlbojgaaDoorRUn
import Derived.Test.YtempflfhlbojgaaDoorSpec
namespace Go.Proofs.YtempflfhlbojgaaDoor
open Go.RowKit

set_option maxHeartbeats 4000000 in
set_option maxRecDepth 100000 in
theorem armors_at (pE : Addr) (w : World) (hE : w.cell? ⟨0, 0, none⟩ = some (.iface 108 (.pointer (some pE)))) :
    Calls Tryd.prog 5 #[] w fun e w' => e = .returned (.bool true) ∧ Fr (fun _ => False) w w' := by
  have h00 := World.block_lt_of_cell? w _ hE
  have kc := fun w g C n c hg => conv_const w g C n c hg
  have HE := Lib.hid hE
  clear hE
  go_enter Tryd.func5, Tryd.ntmps5
  go_wp2_with fail
  obtain ⟨u, hu⟩ : ∃ u, u = w.alloc (.cells #[.int .u8 97, .int .u8 98, .int .u8 99] 5 (3, 4)) := ⟨_, rfl⟩
  have fA : Fr (fun _ => False) w u := hu ▸ Fr.alloc _
  have aA : At u ⟨w.heap.size, 0, none⟩ [97, 98, 99] := hu ▸ at_row (l := [97, 98, 99]) (heap_alloc_new w (.cells #[.int .u8 97, .int .u8 98, .int .u8 99] 5 (3, 4)))
  rw [← hu]
  clear hu
  have hh : Holds u (some ⟨w.heap.size, 0, none⟩) [97, 98, 99] := .inr ⟨_, _, rfl, fun i hi => by
    rw [aA.cell hi, List.getD, List.getElem?_eq_getElem hi]
    rfl⟩
  have FA := Lib.hid fA
  have hz := fA.size
  clear fA aA
  refine (armor_any (some ⟨w.heap.size, 0, none⟩) 3 [97, 98, 99] u (by decide) hh).mono ?_
  rintro e w1 ⟨⟨s, rfl, hs⟩, hw1⟩
  obtain rfl := hw1
  rw [abcText_armor] at hs
  have Hs := Lib.hid hs
  have Hl := Lib.hid abcText_length
  clear hs hh
  go_wp2_with (with_reducible refine wpList_bytes rfl _ 9 22 5 rfl Tryd.underlying9 Tryd.underlying22 Tryd.underlying5 s rfl abcText Hs.out 73 Hl.out (by omega) ?_; intro c w2 hc hc2 at2 f2 hlt2)
  refine (unarmored_abc w1.heap.size c pE w2 (f2.out.cell (FA.out.cell HE.out (fun h => h)) (fun h => h)) at2.out hc hc2 (by omega) hlt2).mono ?_
  rintro e w3 ⟨g, cp, rfl, at3, f3⟩
  have hk3 : (convert 22 9 (.slice (some ⟨g, 0, none⟩) 3 cp)).run Tryd.prog w3 = .ok (.string ⟨#[97, 98, 99]⟩) w3 := string_of at3 rfl
  have F3 := Lib.hid f3
  clear at3 f3
  go_wp2_with fail
  go_ret
  exact ⟨rfl, (FA.out.trans f2.out (fun _ _ h => h)).trans F3.out (fun _ _ h => h)⟩
end Go.Proofs.YtempflfhlbojgaaDoor
