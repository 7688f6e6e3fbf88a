/-
  The walks of the makers on the reader's side: bufio.NewReader (NewReaderSize, reset) and armor.NewReader.
-/
import Derived.Test.YtempflfhlbojgaaDoorRGl
import Derived.Handy
import Derived.Laws.Tables
namespace Go.Proofs.YtempflfhlbojgaaDoor
open Go.RowKit

theorem size90 : (Tryd.prog.info? 90).map (·.size) = some 7 := by kernel_rfl

theorem Fr.row {S : Nat → Prop} {w : World} (g : Nat) (cs : Array Value) (h : S g) : Fr S w (w.setRow g cs) := Fr.setRow g cs h

set_option maxHeartbeats 4000000 in
set_option maxRecDepth 100000 in
theorem rdReset_at (rb bb sb : Nat) (cs : Array Value) (w : World) (h : w.heap[rb]? = some (.cells cs 90 (0, 0))) (hz : cs.size = 7) :
    Calls Tryd.prog 35 #[.pointer (some ⟨rb, 0, none⟩), .slice (some ⟨bb, 0, none⟩) 4096 4096, .iface 50 (.pointer (some ⟨sb, 0, none⟩))] w fun e w' => e = .returned (.tuple #[]) ∧ Rdr rb bb sb 0 0 (-1) (-1) w' ∧ Fr (· = rb) w w' := by
  go_enter Tryd.func35, Tryd.ntmps35
  go_wp2_with (refine wpList_store_row rfl 90 _ _ rfl rb _ rfl rfl 90 cs h (by exact size90) (by exact hz) (by simp [Value.oneCell']) ?_)
  go_returns
  exact ⟨rfl, setRow_heap w rb cs _ 90 _ h, Fr.setRow rb _ rfl⟩

theorem no_reader (a : Addr) (w : World) : (Instr.typeAssert (.iface 50 (.pointer (some a))) 48 66 true).run Tryd.prog w = .ok (.tuple #[.pointer none, .bool false]) w := by kernel_rfl

set_option maxHeartbeats 4000000 in
set_option maxRecDepth 100000 in
theorem newSize_at (sb : Nat) (w : World) : Calls Tryd.prog 31 #[.iface 50 (.pointer (some ⟨sb, 0, none⟩)), .int .i64 4096] w fun e w' => e = .returned (.pointer (some ⟨w.heap.size, 0, none⟩)) ∧ Rdr w.heap.size (w.heap.size + 1) sb 0 0 (-1) (-1) w' ∧
    (∃ row, w'.heap[w.heap.size + 1]? = some (.cells row 5 (0, 0)) ∧ row.size = 4096) ∧ Fr (fun _ => False) w w' := by
  have hno := no_reader
  go_enter Tryd.func31, Tryd.ntmps31
  go_wp2_with (with_reducible refine wpList_make_bytes rfl _ _ rfl 4096 rfl rfl (by omega) ?_; intro w1 cur h1 hcur f1)
  have hr := f1.out.keep (heap_alloc_new w _) (fun h => h)
  have hz : (w.alloc (.cells #[.slice none 0 0, .nilIface, .int .i64 0, .int .i64 0, .nilIface, .int .i64 0, .int .i64 0] 90)).heap.size = w.heap.size + 1 := by simp
  rw [hz] at h1
  refine (rdReset_at w.heap.size (w.heap.size + 1) sb _ w1 hr rfl).mono ?_
  rintro e w2 ⟨rfl, k1, k2⟩
  have k3 := k2.keep h1.out (by show ¬ w.heap.size + 1 = w.heap.size; omega)
  have f2 : Fr (fun _ => False) w w2 := ((Fr.alloc _).trans f1.out (fun _ _ h => h)).after k2 (fun i hi h => by omega)
  have K1 := Lib.hid k1
  have K3 := Lib.hid k3
  have F2 := Lib.hid f2
  clear k1 k2 k3 f2 hr f1 h1
  go_wp2_with fail
  go_ret
  exact ⟨rfl, K1.out, ⟨cur, K3.out, hcur⟩, F2.out⟩

set_option maxHeartbeats 4000000 in
set_option maxRecDepth 100000 in
theorem newRd_at (sb : Nat) (w : World) : Calls Tryd.prog 28 #[.iface 50 (.pointer (some ⟨sb, 0, none⟩))] w fun e w' => e = .returned (.pointer (some ⟨w.heap.size, 0, none⟩)) ∧ Rdr w.heap.size (w.heap.size + 1) sb 0 0 (-1) (-1) w' ∧
    (∃ row, w'.heap[w.heap.size + 1]? = some (.cells row 5 (0, 0)) ∧ row.size = 4096) ∧ Fr (fun _ => False) w w' := by
  go_enter Tryd.func28, Tryd.ntmps28
  go_wp2_with fail
  refine (newSize_at sb w).mono ?_
  rintro e w2 ⟨rfl, k1, k3, f2⟩
  have K1 := Lib.hid k1
  have K3 := Lib.hid k3
  have F2 := Lib.hid f2
  clear k1 k3 f2
  go_wp2_with fail
  go_ret
  exact ⟨rfl, K1.out, K3.out, F2.out⟩

set_option maxHeartbeats 4000000 in
set_option maxRecDepth 100000 in
/-- armor.NewReader. -/
theorem newReader_at (sb : Nat) (w : World) : Calls Tryd.prog 20 #[.iface 50 (.pointer (some ⟨sb, 0, none⟩))] w fun e w' => ∃ arb, e = .returned (.iface 65 (.pointer (some ⟨arb, 0, none⟩))) ∧ w.heap.size + 1 < arb ∧ Ar arb w.heap.size false (.slice none 0 0) .nilIface w' ∧
    Rdr w.heap.size (w.heap.size + 1) sb 0 0 (-1) (-1) w' ∧ (∃ row, w'.heap[w.heap.size + 1]? = some (.cells row 5 (0, 0)) ∧ row.size = 4096) ∧ Fr (fun _ => False) w w' := by
  go_enter Tryd.func20, Tryd.ntmps20
  go_wp2_with fail
  refine (newRd_at sb w).mono ?_
  rintro e w2 ⟨rfl, k1, ⟨row, k3, k4⟩, f2⟩
  have hlt := (Array.getElem?_eq_some_iff.1 k3).1
  have K1 := Lib.hid k1
  have K3 := Lib.hid k3
  have F2 := Lib.hid f2
  clear k1 k3 f2
  go_wp2_with fail
  go_ret
  have fA : ∀ o, Fr (fun _ => False) w2 (w2.alloc o) := fun o => Fr.alloc o
  refine ⟨_, rfl, hlt, ⟨_, heap_alloc_new w2 _, ?_, ?_, ?_, ?_, ?_⟩, K1.out.fr (fA _) (fun h => h), ⟨row, (fA _).keep K3.out (fun h => h), k4⟩, F2.out.trans (fA _) (fun _ _ h => h)⟩
  all_goals rfl
end Go.Proofs.YtempflfhlbojgaaDoor
