/-
  The walks of small functions on the reader's side: assemble32 and BEPutUint32 at the bytes of "abc", Strict, readErr, setErr at io.EOF, LimitReader.
-/
import Derived.Test.YtempflfhlbojgaaDoorRLn
namespace Go.Proofs.YtempflfhlbojgaaDoor
open Go.RowKit

set_option maxHeartbeats 4000000 in
set_option maxRecDepth 100000 in
theorem assemble_abc (w : World) : Calls Tryd.prog 82 #[.int .u8 24, .int .u8 22, .int .u8 9, .int .u8 35] w fun e w' => e = .returned (.tuple #[.int .u32 1633837824, .bool true]) ∧ w' = w := by
  have b1 : bits BinOp.or IntKind.u8 24 22 = 30 := by decide +kernel
  have b2 : bits BinOp.or IntKind.u8 30 9 = 31 := by decide +kernel
  have b3 : bits BinOp.or IntKind.u8 31 35 = 63 := by decide +kernel
  have c1 : bits BinOp.or IntKind.u32 1610612736 23068672 = 1633681408 := by decide +kernel
  have c2 : bits BinOp.or IntKind.u32 1633681408 147456 = 1633828864 := by decide +kernel
  have c3 : bits BinOp.or IntKind.u32 1633828864 8960 = 1633837824 := by decide +kernel
  go_enter Tryd.func82, Tryd.ntmps82
  go_wp2_with fail
  go_ret2
  exact ⟨rfl, rfl⟩

set_option maxHeartbeats 4000000 in
set_option maxRecDepth 100000 in
theorem strict_at (w : World) : Calls Tryd.prog 74 #[.agg (encCells 64)] w fun e w' => e = .returned (.pointer (some ⟨w.heap.size, 0, none⟩)) ∧ w'.heap[w.heap.size]? = some (.cells ((encCells 64).setIfInBounds 321 (.bool true)) 103 (0, 0)) ∧ Fr (fun _ => False) w w' := by
  have hz := encCells_size 64
  obtain ⟨E, hE⟩ : ∃ E, E = encCells 64 := ⟨_, rfl⟩
  rw [← hE] at hz ⊢
  have he : E[321]? = some (.bool false) := by rw [hE]; exact encCells_strict 64
  go_enter Tryd.func74, Tryd.ntmps74
  go_wp2_with fail
  go_ret
  rw [← hE]
  exact ⟨rfl, heap_alloc_new w _, Fr.alloc _⟩

theorem info108 : (Tryd.prog.info? 108).map (·.comparable) = some true := by kernel_rfl
theorem info_es : (Tryd.prog.info? 147).isSome = true := by kernel_rfl

theorem eof_eq (pE : Addr) (w : World) : (binOp .eql 44 (.iface 108 (.pointer (some pE))) (.iface 108 (.pointer (some pE)))).run Tryd.prog w = .ok (.bool true) w := by
  obtain ⟨i, hi, hc⟩ := Option.map_eq_some_iff.1 info108
  obtain ⟨j, hj⟩ := Option.isSome_iff_exists.1 info_es
  exact run_eql_iface_ptr_same w pE Tryd.underlying44 Tryd.underlying108 hi hc hj

theorem eof_neq (pE : Addr) (w : World) : (binOp .neq 44 (.iface 108 (.pointer (some pE))) (.iface 108 (.pointer (some pE)))).run Tryd.prog w = .ok (.bool false) w := by
  obtain ⟨i, hi, hc⟩ := Option.map_eq_some_iff.1 info108
  obtain ⟨j, hj⟩ := Option.isSome_iff_exists.1 info_es
  simp only [binOp]
  simp [Op.equal, Op.maxDepth, run_equalIn_iface_ptr_same w 9998 pE Tryd.underlying44 Tryd.underlying108 hi hc hj]

set_option maxHeartbeats 4000000 in
set_option maxRecDepth 100000 in
theorem setErr_eof (arb : Nat) (pE : Addr) (v : Value) (w : World) (hE : w.cell? ⟨0, 0, none⟩ = some (.iface 108 (.pointer (some pE)))) (h : w.cell? ⟨arb, 51, none⟩ = some v) (hf : w.frozen? ⟨arb, 51, none⟩ = false) :
    Calls Tryd.prog 64 #[.pointer (some ⟨arb, 0, none⟩), .iface 108 (.pointer (some pE))] w fun e w' => e = .returned (.iface 108 (.pointer (some pE))) ∧ w' = w.setCell ⟨arb, 51, none⟩ (.iface 108 (.pointer (some pE))) := by
  go_enter Tryd.func64, Tryd.ntmps64
  have hne := eof_neq pE
  go_wp2_with fail
  go_ret
  exact ⟨rfl, rfl⟩
end Go.Proofs.YtempflfhlbojgaaDoor
