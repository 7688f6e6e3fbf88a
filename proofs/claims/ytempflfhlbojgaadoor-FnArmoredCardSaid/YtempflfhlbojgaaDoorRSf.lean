/-
  The walk of bufio.Reader.ReadSlice, the first time: the buffer is filled.
-/
import Derived.Test.YtempflfhlbojgaaDoorRSl
namespace Go.Proofs.YtempflfhlbojgaaDoor
open Go.RowKit

set_option maxHeartbeats 4000000 in
set_option maxRecDepth 100000 in
theorem buffered_none (rb bb sb : Nat) (lb lr : Int) (w : World) (hr : Rdr rb bb sb 0 0 lb lr w) : Calls Tryd.prog 88 #[.pointer (some ⟨rb, 0, none⟩)] w fun e w' => e = .returned (.int .i64 0) ∧ ∃ k, w.drewN k = w' := by
  obtain ⟨c0, c1, c2, c3, c4, c5, c6, fz, hlt⟩ := hr.cells
  clear hr
  go_enter Tryd.func88, Tryd.ntmps88
  go_wp2_with fail
  go_quiet (fail)
  go_wp2_with fail
  go_ret
  exact ⟨rfl, _, rfl⟩

set_option maxHeartbeats 4000000 in
set_option maxRecDepth 100000 in
theorem readSlice_first (rb bb sb xb n c m : Nat) (lb lr : Int) (T pre rest : List UInt8) (row : Array Value) (w : World) (hr : Rdr rb bb sb 0 0 lb lr w) (h : w.heap[sb]? = some (.cells #[.slice (some ⟨xb, 0, none⟩) n c, .int .i64 0] 52 (0, 0))) (hb : w.heap[bb]? = some (.cells row 5 (0, 0))) (hrow : row.size = 4096)
    (hatx : At w ⟨xb, 0, none⟩ T) (hT : T.length = n) (hn : n ≤ 4096) (hc : n ≤ c) (hc2 : c ≤ 9223372036854775807) (hxb : xb ≠ bb) (hsb : sb ≠ bb) (hrs : rb ≠ sb) (hrb : rb ≠ bb)
    (hsp : T = pre ++ 10 :: rest) (hpre : (10 : UInt8) ∉ pre) (hm : pre.length = m) :
    Calls Tryd.prog 84 #[.pointer (some ⟨rb, 0, none⟩), .int .u8 10] w fun e w' => e = .returned (.tuple #[.slice (some ⟨bb, 0, none⟩) (m + 1) 4096, .nilIface]) ∧ Rdr rb bb sb (m + 1) n 10 (-1) w' ∧ (∃ a c', w'.heap[sb]? = some (.cells #[.slice a 0 c', .int .i64 0] 52 (0, 0))) ∧
      At w' ⟨bb, 0, none⟩ T ∧ Fr (fun k => k = sb ∨ k = bb ∨ k = rb) w w' := by
  obtain ⟨c0, c1, c2, c3, c4, c5, c6, fz, hlt⟩ := hr.cells
  have hlen : m + 1 ≤ n := by
    have := congrArg List.length hsp
    rw [List.length_append, List.length_cons, hT, hm] at this
    omega
  have hl2 : (pre ++ 10 :: rest).length = n := by rw [← hsp, hT]
  have i3 : (n : Int) ≤ 4096 := by omega
  have i4 : (m : Int) + 1 ≤ 4096 := by omega
  have i6 : (0 : Int) ≤ (m : Int) := by omega
  have i7 : (0 : Int) ≤ (m : Int) + 1 := by omega
  have i8 : (0 : Int) ≤ (n : Int) := by omega
  have hbr : bb ≠ rb := fun e => hrb e.symm
  have hw0 : IntKind.i64.wrap 0 = 0 := wrap_i64_of _ (by omega) (by omega)
  have hm1 : ((m + 1 : Nat) : Int) - 1 = (m : Int) := by omega
  have Hr := Lib.hid hr
  have Hh := Lib.hid h
  have Hb := Lib.hid hb
  have Hatx := Lib.hid hatx
  have Hl2 := Lib.hid hl2
  have Hm := Lib.hid hm
  have Hsp := Lib.hid hsp
  clear hr h hb hatx hl2 hm hsp
  go_enter Tryd.func84, Tryd.ntmps84
  go_wp2_with fail
  refine wp_loop_rounds 2 ?_
  rw [rounds_succ]
  go_wp2_with fail
  go_region_held3 (fun w' => w'.cell? ⟨rb, 0, none⟩ = some (.slice (some ⟨bb, 0, none⟩) 4096 4096) ∧ w'.cell? ⟨rb, 2, none⟩ = some (.int .i64 0) ∧ w'.cell? ⟨rb, 3, none⟩ = some (.int .i64 0)) (refine ⟨?_, ?_, ?_⟩ <;> assumption)
    (first | (go_at_call 73; refine (index_none bb 0 _ 10 _).mono ?_; rintro e w1 ⟨rfl, hw1⟩; obtain rfl := hw1))
  go_wp2_with fail
  go_region_held3 (fun w' => w'.cell? ⟨rb, 0, none⟩ = some (.slice (some ⟨bb, 0, none⟩) 4096 4096)) (assumption)
    (first | (go_at_call 88; refine (buffered_none rb bb sb lb lr _ (by exact Hr.out)).mono ?_; rintro e w1 ⟨rfl, kk, hw1⟩; have dd0 : w1.cell? ⟨rb, 0, none⟩ = some (.slice (some ⟨bb, 0, none⟩) 4096 4096) := (by rw [← hw1]; exact c0)))
  subst hw1
  go_wp2_with fail
  go_quiet (fail)
  go_wp2_with fail
  refine (fill_first rb bb sb xb n c lb lr T row _ (by exact Hr.out) (by exact Hh.out) (by exact Hb.out) hrow (by exact Hatx.out) hT (by omega) hn hc hc2 hxb hsb hrs hrb).mono ?_
  rintro e w2 ⟨rfl, k1, k2, k3, k4⟩
  obtain ⟨d0, d1, d2, d3, d4, d5, d6, dz, dlt⟩ := k1.cells
  have dz2 := dz 2
  have dz5 := dz 5
  have dz6 := dz 6
  have hatb : At w2 ⟨bb, 0, none⟩ T := At.splice k3 (by rw [hT]; simp; omega)
  have hlast : w2.cell? ⟨bb, m, none⟩ = some (.int .u8 10) := by
    have := hatb.cell (i := m) (by omega)
    rw [Nat.zero_add] at this
    rw [this]
    have e1 := Hsp.out
    have e2 := Hm.out
    subst e1
    subst e2
    simp
  have K1 := Lib.hid k1
  have K2 := Lib.hid k2
  have K3 := Lib.hid k3
  have K4 := Lib.hid k4
  have Hatb := Lib.hid hatb
  clear k1 k2 k3 k4 hatb c0 c1 c2 c3 c4 c5 c6 fz dd0
  go_wp2_with fail
  rw [rounds_succ]
  go_wp2_with fail
  go_region_held3 (fun w' => w'.cell? ⟨rb, 0, none⟩ = some (.slice (some ⟨bb, 0, none⟩) 4096 4096) ∧ w'.cell? ⟨rb, 2, none⟩ = some (.int .i64 0) ∧ w'.cell? ⟨rb, 3, none⟩ = some (.int .i64 n)) (refine ⟨?_, ?_, ?_⟩ <;> assumption)
    (first | (go_at_call 73; refine (index_found10 bb 0 n _ m pre rest _ Hm.out (by have q := Hatb.out; rw [Hsp.out] at q; exact q) Hl2.out hpre).mono ?_; rintro e w5 ⟨rfl, hw5⟩; obtain rfl := hw5))
  go_wp2_with fail
  go_quiet (fail)
  go_wp2_with fail
  go_ret2
  obtain ⟨h1, h2⟩ := Rdr.set3 (show Rdr rb bb sb 0 n lb lr (w2.drewN (1 + nq)) from K1.out) (m + 1) 10 (-1)
  rw [show ((m + 1 : Nat) : Int) = (m : Int) + 1 from by omega] at h1 h2
  obtain ⟨a, c', k2⟩ := K2.out
  have k4 := Fr.trans (Fr.drewN (S := fun k => k = sb ∨ k = bb ∨ k = rb) (w := w) _) K4.out (fun _ _ h => h)
  refine ⟨rfl, h1, ⟨a, c', h2.keep (show (w2.drewN (1 + nq)).heap[sb]? = _ from k2) (fun e => hrs e.symm)⟩, (Hatb.out.fr (Fr.drewN (S := fun _ => False) (1 + nq)) (fun h => h)).fr h2 hbr, ?_⟩
  exact (k4.trans (Fr.drewN (S := fun _ => False) (1 + nq)) (fun _ _ h => h.elim)).trans h2 (fun _ _ h => .inr (.inr h))
end Go.Proofs.YtempflfhlbojgaaDoor
