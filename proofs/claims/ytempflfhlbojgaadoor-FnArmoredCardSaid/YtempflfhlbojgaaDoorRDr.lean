/-
  The walks of LimitReader, LimitedReader.Read, zzReadAll and drainTrailing where nothing is left.
-/
import Derived.Test.YtempflfhlbojgaaDoorRRd
import Derived.Lib.BufferRead
namespace Go.Proofs.YtempflfhlbojgaaDoor
open Go.RowKit

theorem nil_ahead66 (F : Nat) (a : Addr) (w : World) : (nilAhead (F + 1) 66 (.pointer (some a)) "Read").run Tryd.prog w = .ok (some false) w := by kernel_rfl
theorem method66 (F : Nat) (a : Addr) (w : World) : (method (F + 1) 66 (.pointer (some a)) "Read").run Tryd.prog w = .ok (90, .pointer (some a)) w := by kernel_rfl
theorem nil_ahead143 (F : Nat) (a : Addr) (w : World) : (nilAhead (F + 1) 143 (.pointer (some a)) "Read").run Tryd.prog w = .ok (some false) w := by kernel_rfl
theorem method143 (F : Nat) (a : Addr) (w : World) : (method (F + 1) 143 (.pointer (some a)) "Read").run Tryd.prog w = .ok (108, .pointer (some a)) w := by kernel_rfl

set_option maxHeartbeats 4000000 in
set_option maxRecDepth 100000 in
theorem lread_end (lb' rb bb sb n c : Nat) (lb lr : Int) (a ap : Option Addr) (pE : Addr) (w : World) (hE : w.cell? ⟨0, 0, none⟩ = some (.iface 108 (.pointer (some pE)))) (hl : w.heap[lb']? = some (.cells #[.iface 66 (.pointer (some ⟨rb, 0, none⟩)), .int .i64 1024] 145 (0, 0)))
    (hr : Rdr rb bb sb n n lb lr w) (h : w.heap[sb]? = some (.cells #[.slice a 0 c, .int .i64 0] 52 (0, 0))) (hn : n ≤ 4096) (hrs : rb ≠ sb) (hr0 : rb ≠ 0) (hrl : rb ≠ lb') :
    Calls Tryd.prog 108 #[.pointer (some ⟨lb', 0, none⟩), .slice ap 512 512] w fun e w' => e = .returned (.tuple #[.int .i64 0, .iface 108 (.pointer (some pE))]) ∧ Rdr rb bb sb 0 0 lb lr w' ∧ Fr (fun k => k = rb ∨ k = lb') w w' := by
  have c0 : w.cell? ⟨lb', 0, none⟩ = some (.iface 66 (.pointer (some ⟨rb, 0, none⟩))) := by rw [cell_of_row _ _ _ _ _ _ hl]; rfl
  have c1 : w.cell? ⟨lb', 1, none⟩ = some (.int .i64 1024) := by rw [cell_of_row _ _ _ _ _ _ hl]; rfl
  have hna := fun F a w => nil_ahead66 F a w
  have hme := fun F a w => method66 F a w
  have Key := Lib.hid (bread_end rb bb sb n c lb lr a ap pE w hE hr h hn hrs hr0)
  have Hl := Lib.hid hl
  clear hE hr h hl
  go_enter Tryd.func108, Tryd.ntmps108
  go_wp2_with fail
  refine Key.out.mono ?_
  rintro e w1 ⟨rfl, k1, k2⟩
  have hl1 := k2.keep Hl.out (fun e => hrl e.symm)
  have d1 : w1.cell? ⟨lb', 1, none⟩ = some (.int .i64 1024) := by rw [cell_of_row _ _ _ _ _ _ hl1]; rfl
  have dz : w1.frozen? ⟨lb', 1, none⟩ = false := frozen_of_row _ _ _ _ _ hl1
  have K1 := Lib.hid k1
  have K2 := Lib.hid k2
  clear k1 k2 hl1
  go_wp2_with fail
  go_ret2
  have hS : Fr (· = lb') w1 (w1.setCell ⟨lb', 1, none⟩ (.int .i64 1024)) := Fr.setCell ⟨lb', 1, none⟩ (.int .i64 1024) rfl
  exact ⟨rfl, K1.out.fr hS hrl, (K2.out.mono (T := fun k => k = rb ∨ k = lb') (fun _ _ h => .inl h)).trans hS (fun _ _ h => .inr h)⟩

set_option maxHeartbeats 4000000 in
set_option maxRecDepth 100000 in
theorem limit_at (rb : Nat) (w : World) : Calls Tryd.prog 70 #[.iface 66 (.pointer (some ⟨rb, 0, none⟩)), .int .i64 1024] w fun e w' => e = .returned (.iface 143 (.pointer (some ⟨w.heap.size, 0, none⟩))) ∧
    w'.heap[w.heap.size]? = some (.cells #[.iface 66 (.pointer (some ⟨rb, 0, none⟩)), .int .i64 1024] 145 (0, 0)) ∧ Fr (fun _ => False) w w' := by
  go_enter Tryd.func70, Tryd.ntmps70
  go_wp2_with fail
  go_ret
  exact ⟨rfl, heap_alloc_new w _, Fr.alloc _⟩

set_option maxHeartbeats 4000000 in
set_option maxRecDepth 100000 in
theorem readAll_end (lb' rb bb sb n c : Nat) (lb lr : Int) (a : Option Addr) (pE : Addr) (w : World) (hE : w.cell? ⟨0, 0, none⟩ = some (.iface 108 (.pointer (some pE)))) (hl : w.heap[lb']? = some (.cells #[.iface 66 (.pointer (some ⟨rb, 0, none⟩)), .int .i64 1024] 145 (0, 0)))
    (hr : Rdr rb bb sb n n lb lr w) (h : w.heap[sb]? = some (.cells #[.slice a 0 c, .int .i64 0] 52 (0, 0))) (hn : n ≤ 4096) (hrs : rb ≠ sb) (hr0 : rb ≠ 0) (hrl : rb ≠ lb') (hl0 : lb' ≠ 0) :
    Calls Tryd.prog 69 #[.iface 143 (.pointer (some ⟨lb', 0, none⟩))] w fun e w' => e = .returned (.tuple #[.slice none 0 0, .nilIface]) ∧ Rdr rb bb sb 0 0 lb lr w' ∧ Fr (fun k => k = rb ∨ k = lb') w w' := by
  have hna := fun F a w => nil_ahead143 F a w
  have hme := fun F a w => method143 F a w
  have heq := eof_eq pE
  have HE := Lib.hid hE
  have Hl := Lib.hid hl
  have Hr := Lib.hid hr
  have Hh := Lib.hid h
  clear hE hl hr h
  go_enter Tryd.func69, Tryd.ntmps69
  go_wp2_with (with_reducible refine wpList_make_bytes rfl _ _ rfl 512 rfl rfl (by omega) ?_; intro w1 cur h1 hcur f1)
  refine wp_loop_rounds 1 ?_
  rw [rounds_succ]
  go_wp2_with fail
  refine (lread_end lb' rb bb sb n c lb lr a _ pE _ (f1.out.cell HE.out (fun h => h)) (f1.out.keep Hl.out (fun h => h)) (Hr.out.fr f1.out (fun h => h)) (f1.out.keep Hh.out (fun h => h)) hn hrs hr0 hrl).mono ?_
  rintro e w2 ⟨rfl, k1, k2⟩
  have hE2 := k2.cell (f1.out.cell HE.out (fun h => h)) (by rintro (e | e); exact hr0 e.symm; exact hl0 e.symm)
  have K1 := Lib.hid k1
  have K2 := Lib.hid k2
  clear k1 k2
  go_wp2_with fail
  go_ret2
  exact ⟨rfl, K1.out, (f1.out.none (S := fun k => k = rb ∨ k = lb')).trans K2.out (fun _ _ h => h)⟩

set_option maxHeartbeats 4000000 in
set_option maxRecDepth 100000 in
/-- drainTrailing, where nothing is left. -/
theorem drain_end (vb arb rb bb sb n c : Nat) (lb lr : Int) (a : Option Addr) (pE : Addr) (w : World) (hE : w.cell? ⟨0, 0, none⟩ = some (.iface 108 (.pointer (some pE)))) (hv : w.cell? ⟨vb, 0, none⟩ = some (.pointer (some ⟨arb, 0, none⟩))) (ha : w.cell? ⟨arb, 0, none⟩ = some (.pointer (some ⟨rb, 0, none⟩)))
    (hr : Rdr rb bb sb n n lb lr w) (h : w.heap[sb]? = some (.cells #[.slice a 0 c, .int .i64 0] 52 (0, 0))) (hn : n ≤ 4096) (hrs : rb ≠ sb) (hr0 : rb ≠ 0) :
    Calls Tryd.prog 68 #[.pointer (some ⟨vb, 0, none⟩)] w fun e w' => e = .returned (.iface 108 (.pointer (some pE))) ∧ Rdr rb bb sb 0 0 lb lr w' ∧ Fr (· = rb) w w' := by
  have h0 := World.block_lt_of_cell? w _ hE
  have hrl := hr.cells.2.2.2.2.2.2.2.2
  have HE := Lib.hid hE
  have Hr := Lib.hid hr
  have Hh := Lib.hid h
  clear hE hr h
  go_enter Tryd.func68, Tryd.ntmps68
  go_wp2_with fail
  refine (limit_at rb _).mono ?_
  rintro e w1 ⟨rfl, k1, f1⟩
  have K1 := Lib.hid k1
  have F1 := Lib.hid f1
  clear k1 f1
  go_wp2_with fail
  have h0' : (0 : Nat) < w.heap.size := h0
  refine (readAll_end w.heap.size rb bb sb n c lb lr a pE _ (F1.out.cell HE.out (fun h => h)) K1.out (Hr.out.fr F1.out (fun h => h)) (F1.out.keep Hh.out (fun h => h)) hn hrs hr0 (by omega) (by omega)).mono ?_
  rintro e w2 ⟨rfl, k2, f2⟩
  have hE2 := f2.cell (F1.out.cell HE.out (fun h => h)) (by rintro (e | e); exact hr0 e.symm; have e' : 0 = w.heap.size := e; omega)
  have K2 := Lib.hid k2
  have F2 := Lib.hid f2
  clear k2 f2
  go_wp2_with fail
  refine (blank_none none 0 _ (Lib.run_convert_nil_bytes _ 22 9 5 0 Tryd.underlying22 Tryd.underlying5 Tryd.underlying9)).mono ?_
  rintro e w3 ⟨rfl, f3⟩
  have hE3 := f3.cell hE2 (fun h => h)
  have F3 := Lib.hid f3
  clear f3
  go_wp2_with fail
  go_ret
  refine ⟨rfl, K2.out.fr F3.out (fun h => h), ?_⟩
  have g1 : Fr (· = rb) w w2 := (F1.out.none (S := (· = rb))).trans F2.out (fun i hi h => by rcases h with h | h; exact h; exact absurd h (by omega))
  exact g1.trans F3.out (fun _ _ h => h.elim)
end Go.Proofs.YtempflfhlbojgaaDoor
