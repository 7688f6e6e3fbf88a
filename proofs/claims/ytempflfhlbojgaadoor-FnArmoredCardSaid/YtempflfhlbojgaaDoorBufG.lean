/-
  The walks of bytes.Buffer: grow, Write, Reset, Len, Bytes, WriteTo, for a buffer that has only been written; with a frame that names the blocks which may have turned.
-/
import Derived.Test.YtempflfhlbojgaaDoorRows
import Derived.Test.YtempflfhlbojgaaDoorBase
import Derived.Test.YtempflfhlbojgaaDoorShelf
import Derived.WalkKit
import Derived.WalkSpells
import Derived.WalkLawsBesides
import Derived.Deep.QuietTactic
import Derived.BigQuiet
import Derived.Deep.RegionWith
import Derived.Lib.BufferMore
import Derived.Lib.BufferWrite
import Derived.Laws.IdiomCopy
namespace Go.Proofs.YtempflfhlbojgaaDoor
open Go.RowKit

theorem info5 : (Tryd.prog.info? 5).map (fun i => (i.zero, i.size, i.bytes)) = some (some (.int .u8 0), 1, 1) := by kernel_rfl
theorem size5 : (Tryd.prog.info? 5).map (·.size) = some 1 := by kernel_rfl

/-- What grow leaves: the buffer holds its old bytes and n more of whatever lay there, in a new row. -/
def Grew (T : TypeId) (R : Nat → Option Value) (b q n : Nat) (l : List UInt8) (w w' : World) : Prop :=
  ∃ cap lr cells, LibA.Three w' b q T R (.slice (some ⟨w.heap.size, 0, none⟩) (l.length + n) cap) (.int .i64 0) (.int .i8 lr) ∧
    w'.heap[w.heap.size]? = some (.cells cells 5 (0, 0)) ∧ cells.size = cap ∧ l.length + n ≤ cap ∧ cap ≤ maxLen ∧ cells.toList.take l.length = Lib.byteCells l ∧ Fr (· = b) w w'

set_option maxHeartbeats 400000 in
/-- Len. -/
theorem len_at (b o : Nat) (a : Option Addr) (l c k : Nat) (w : World) (h0 : w.cell? ⟨b, o, none⟩ = some (.slice a l c)) (h1 : w.cell? ⟨b, o + 1, none⟩ = some (.int .i64 k)) (hl : l ≤ 9223372036854775807) (hk : k ≤ l) :
    Calls Tryd.prog 36 #[.pointer (some ⟨b, o, none⟩)] w fun e w' => e = .returned (.int .i64 (l - k : Nat)) ∧ ∃ n, w.drewN n = w' := by
  have hw : IntKind.i64.wrap ((l : Int) - k) = ((l - k : Nat) : Int) := by rw [IntKind.wrap_i64]; omega
  go_enter Tryd.func36, Tryd.ntmps36
  go_wp2
  go_quiet (fail)
  go_wp2
  go_ret
  exact ⟨rfl, _, rfl⟩

set_option maxHeartbeats 4000000 in
set_option maxRecDepth 100000 in
/-- grow, the buffer holds a row with bytes in it that has no room. -/
theorem grow_row (T : TypeId) (R : Nat → Option Value) (b q g cap n : Nat) (lr : Int) (cur : Array Value) (l : List UInt8) (w : World)
    (hbk : LibA.Three w b q T R (.slice (some ⟨g, 0, none⟩) l.length cap) (.int .i64 0) (.int .i8 lr)) (hg : w.heap[g]? = some (.cells cur 5 (0, 0)))
    (hlc : l.length ≤ cap) (hcm : cap ≤ maxLen) (hcs : cur.size = cap) (htake : cur.toList.take l.length = Lib.byteCells l) (hn : 1 ≤ n) (hroom : cap - l.length < n) (hlim : l.length + n ≤ 1000000) (hl0 : l.length ≠ 0) :
    Calls Tryd.prog 40 #[.pointer (some ⟨b, q, none⟩), .int .i64 n] w fun e w' => e = .returned (.int .i64 l.length) ∧ Grew T R b q n l w w' := by
  have hcm' := hcm
  unfold maxLen at hcm'
  have hnil : ∀ W, (binOp .eql 22 (.slice (some ⟨g, 0, none⟩) l.length cap) (.slice none 0 0)).run Tryd.prog W = .ok (.bool false) W := fun W => Lib.run_eql_slice_some_nil W _ _ _ Tryd.underlying22
  go_enter Tryd.func40, Tryd.ntmps40
  go_wp2_with fail
  refine (len_at b q _ l.length cap 0 _ hbk.c0 hbk.c1 (by omega) (Nat.zero_le _)).mono ?_
  rintro e W0 ⟨rfl, k, hW0⟩
  rw [Nat.sub_zero]
  have hfr0 : Fr (· = b) w W0 := hW0 ▸ Fr.drewN k
  have hsz0 : W0.heap.size = w.heap.size := by rw [← hW0]; rfl
  have hbk0 : LibA.Three W0 b q T R (.slice (some ⟨g, 0, none⟩) l.length cap) (.int .i64 0) (.int .i8 lr) := by rw [← hW0]; exact hbk
  have hg0 : W0.heap[g]? = some (.cells cur 5 (0, 0)) := by rw [← hW0]; exact hg
  have c0 : W0.cell? ⟨b, q, none⟩ = some (.slice (some ⟨g, 0, none⟩) l.length cap) := hbk0.c0
  have c1 : W0.cell? ⟨b, q + 1, none⟩ = some (.int .i64 0) := hbk0.c1
  have f0 : W0.frozen? ⟨b, q, none⟩ = false := hbk0.f q
  have f1 : W0.frozen? ⟨b, q + 1, none⟩ = false := hbk0.f (q + 1)
  have hbW := hbk0.lt
  clear hW0 hbk hg
  have Hsz0 := Lib.hid hsz0
  have Hfr0 := Lib.hid hfr0
  clear hsz0 hfr0
  have hm0 : ((l.length : Int) == 0) = false := by simp; exact fun h => hl0 (by simp [h])
  go_wp2_with fail
  refine (Tryd.Buffer_tryGrow_none_at b q _ l.length cap n _ c0 hlc hcm hroom).mono ?_
  rintro e w' ⟨rfl, hw'⟩
  obtain rfl : W0 = w' := hw'.symm
  clear hw'
  go_wp2_with fail
  have hc2 : cap ≤ 140737488355328 := by omega
  have h1' : ∀ v ∈ cur.toList.take l.length, v.oneCell' = true := by rw [htake]; exact row_oneCell l
  have hwn : IntKind.i64.wrap (n : Int) = n := by rw [IntKind.wrap_i64]; omega
  go_region_with (
      go_at_call 42
      refine (Tryd.bytes_growSlice_row g l.length cap n cur _ ?_ hcs hlc hn (by omega) hc2 h1').mono ?_
      exact hg0
      rintro e w2 ⟨cap2, cells, rfl, hN, hcsz, htk, hcap2, hcm2, hbel⟩
      have hbk2 : LibA.Three w2 b q T R (.slice (some ⟨g, 0, none⟩) l.length cap) (.int .i64 0) (.int .i8 lr) := hbk0.of_heap (hbel.block b hbW)
      have d0 : w2.cell? ⟨b, q, none⟩ = some (.slice (some ⟨g, 0, none⟩) l.length cap) := hbk2.c0
      have d1 : w2.cell? ⟨b, q + 1, none⟩ = some (.int .i64 0) := hbk2.c1
      have e0 : w2.frozen? ⟨b, q, none⟩ = false := hbk2.f q
      have e1 : w2.frozen? ⟨b, q + 1, none⟩ = false := hbk2.f (q + 1))
  all_goals (
    go_wp2
    go_ret
    have hsz := Hsz0.out
    have hN2 : w2.heap[w.heap.size]? = some (.cells cells 5 (0, 0)) := by rw [← hsz]; exact hN
    have hne : w.heap.size ≠ b := by have := hbW; rw [hsz] at this; omega
    have hfr : Fr (· = b) w w2 := (Hfr0.out.trans (T := (· = b)) Fr.drew (fun _ _ h => h)).trans (Fr.of_below hbel) (fun i hi hT => by have : W0.heap.size ≤ i := hT; omega)
    rw [hsz]
    refine ⟨rfl, cap2, lr, cells, ((hbk2.set0 _).set1 _).set0 _, ?_, hcsz, hcap2, hcm2, htk.trans htake, ?_⟩
    · rw [Below.heap_setCell _ _ _ _ hne, Below.heap_setCell _ _ _ _ hne, Below.heap_setCell _ _ _ _ hne]; exact hN2
    · exact ((hfr.trans (Fr.setCell (S := (· = b)) _ _ rfl) (fun _ _ h => h)).trans (Fr.setCell (S := (· = b)) _ _ rfl) (fun _ _ h => h)).trans (Fr.setCell (S := (· = b)) _ _ rfl) (fun _ _ h => h))
set_option maxHeartbeats 4000000 in
set_option maxRecDepth 100000 in
/-- grow, the buffer holds a row without bytes in it that has no room. -/
theorem grow_row0 (T : TypeId) (R : Nat → Option Value) (b q g cap n : Nat) (lr : Int) (cur : Array Value) (w : World)
    (hbk : LibA.Three w b q T R (.slice (some ⟨g, 0, none⟩) 0 cap) (.int .i64 0) (.int .i8 lr)) (hg : w.heap[g]? = some (.cells cur 5 (0, 0)))
    (hcm : cap ≤ maxLen) (hcs : cur.size = cap) (hn : 1 ≤ n) (hroom : cap < n) (hlim : n ≤ 1000000) :
    Calls Tryd.prog 40 #[.pointer (some ⟨b, q, none⟩), .int .i64 n] w fun e w' => e = .returned (.int .i64 0) ∧ Grew T R b q n [] w w' := by
  have hcm' := hcm
  unfold maxLen at hcm'
  have hnil : ∀ W, (binOp .eql 22 (.slice (some ⟨g, 0, none⟩) 0 cap) (.slice none 0 0)).run Tryd.prog W = .ok (.bool false) W := fun W => Lib.run_eql_slice_some_nil W _ _ _ Tryd.underlying22
  go_enter Tryd.func40, Tryd.ntmps40
  go_wp2_with fail
  refine (len_at b q _ 0 cap 0 _ hbk.c0 hbk.c1 (by omega) (by omega)).mono ?_
  rintro e W0 ⟨rfl, k, hW0⟩
  rw [show ((0 - 0 : Nat) : Int) = 0 from rfl]
  have hfr0 : Fr (· = b) w W0 := hW0 ▸ Fr.drewN k
  have hsz0 : W0.heap.size = w.heap.size := by rw [← hW0]; rfl
  have hbk0 : LibA.Three W0 b q T R (.slice (some ⟨g, 0, none⟩) 0 cap) (.int .i64 0) (.int .i8 lr) := by rw [← hW0]; exact hbk
  have hg0 : W0.heap[g]? = some (.cells cur 5 (0, 0)) := by rw [← hW0]; exact hg
  have c0 : W0.cell? ⟨b, q, none⟩ = some (.slice (some ⟨g, 0, none⟩) 0 cap) := hbk0.c0
  have c1 : W0.cell? ⟨b, q + 1, none⟩ = some (.int .i64 0) := hbk0.c1
  have f0 : W0.frozen? ⟨b, q, none⟩ = false := hbk0.f q
  have f1 : W0.frozen? ⟨b, q + 1, none⟩ = false := hbk0.f (q + 1)
  have hbW := hbk0.lt
  clear hW0 hbk hg
  have Hsz0 := Lib.hid hsz0
  have Hfr0 := Lib.hid hfr0
  clear hsz0 hfr0
  go_wp2_with fail
  refine (Tryd.Buffer_tryGrow_none_at b q _ 0 cap n _ c0 (Nat.zero_le _) hcm (by omega)).mono ?_
  rintro e w' ⟨rfl, hw'⟩
  obtain rfl : W0 = w' := hw'.symm
  clear hw'
  go_wp2_with fail
  have hc2 : cap ≤ 140737488355328 := by omega
  have h1' : ∀ v ∈ cur.toList.take 0, v.oneCell' = true := by simp
  have hwn : IntKind.i64.wrap (n : Int) = n := by rw [IntKind.wrap_i64]; omega
  go_region_with (
      go_at_call 42
      refine (Tryd.bytes_growSlice_row g 0 cap n cur _ ?_ hcs (Nat.zero_le _) hn (by omega) hc2 h1').mono ?_
      exact hg0
      rintro e w2 ⟨cap2, cells, rfl, hN, hcsz, htk, hcap2, hcm2, hbel⟩
      have hbk2 : LibA.Three w2 b q T R (.slice (some ⟨g, 0, none⟩) 0 cap) (.int .i64 0) (.int .i8 lr) := hbk0.of_heap (hbel.block b hbW)
      have d0 : w2.cell? ⟨b, q, none⟩ = some (.slice (some ⟨g, 0, none⟩) 0 cap) := hbk2.c0
      have d1 : w2.cell? ⟨b, q + 1, none⟩ = some (.int .i64 0) := hbk2.c1
      have e0 : w2.frozen? ⟨b, q, none⟩ = false := hbk2.f q
      have e1 : w2.frozen? ⟨b, q + 1, none⟩ = false := hbk2.f (q + 1))
  all_goals (
    go_wp2
    go_ret
    have hsz := Hsz0.out
    have hN2 : w2.heap[w.heap.size]? = some (.cells cells 5 (0, 0)) := by rw [← hsz]; exact hN
    have hne : w.heap.size ≠ b := by have := hbW; rw [hsz] at this; omega
    have hfr : Fr (· = b) w w2 := (Hfr0.out.trans (T := (· = b)) Fr.drew (fun _ _ h => h)).trans (Fr.of_below hbel) (fun i hi hT => by have : W0.heap.size ≤ i := hT; omega)
    rw [hsz]
    refine ⟨rfl, cap2, lr, cells, by simpa using ((hbk2.set0 _).set1 _).set0 _, ?_, hcsz, by simpa using hcap2, hcm2, by simp [Lib.byteCells], ?_⟩
    · rw [Below.heap_setCell _ _ _ _ hne, Below.heap_setCell _ _ _ _ hne, Below.heap_setCell _ _ _ _ hne]; exact hN2
    · exact ((hfr.trans (Fr.setCell (S := (· = b)) _ _ rfl) (fun _ _ h => h)).trans (Fr.setCell (S := (· = b)) _ _ rfl) (fun _ _ h => h)).trans (Fr.setCell (S := (· = b)) _ _ rfl) (fun _ _ h => h))
set_option maxHeartbeats 4000000 in
set_option maxRecDepth 100000 in
/-- grow, the buffer is nil, at most 64 bytes. -/
theorem grow_nil_small (T : TypeId) (R : Nat → Option Value) (b q n : Nat) (lr : Int) (w : World)
    (hbk : LibA.Three w b q T R (.slice none 0 0) (.int .i64 0) (.int .i8 lr)) (hn : 1 ≤ n) (h64 : n ≤ 64) :
    Calls Tryd.prog 40 #[.pointer (some ⟨b, q, none⟩), .int .i64 n] w fun e w' => e = .returned (.int .i64 0) ∧ Grew T R b q n [] w w' := by
  obtain ⟨i0, hi, hz0, hz1, hz2⟩ := info_parts info5
  obtain ⟨M, hM⟩ : ∃ M, M = madeCells (Value.int .u8 0).cells ((64 : Int).toNat * i0.size) := ⟨_, rfl⟩
  have hMs : M.size = 64 := by rw [hM, size_madeCells, hz1]; rfl
  have hmk : ∀ W : World, (Instr.makeSlice 22 (.int .i64 (n : Int)) (.int .i64 64)).run Tryd.prog W = .ok (.slice (some ⟨W.heap.size, 0, none⟩) n 64) (W.alloc (.cells M 5)) := fun W => by
    have h := run_makeSlice (P := Tryd.prog) W 22 5 i0 (.int .u8 0) Tryd.underlying22 hi hz0 .i64 .i64 (n : Int) 64 (by omega) (by omega) (by rw [hz1]; decide) (by rw [hz2]; decide) (by decide)
    rw [← hM] at h
    simpa using h
  clear hM
  have hnil : ∀ W, (binOp .eql 22 (.slice none 0 0) (.slice none 0 0)).run Tryd.prog W = .ok (.bool true) W := fun W => Lib.run_eql_slice_nil_nil W _ _ Tryd.underlying22
  go_enter Tryd.func40, Tryd.ntmps40
  go_wp2_with fail
  refine (len_at b q _ 0 0 0 _ hbk.c0 hbk.c1 (by omega) (by omega)).mono ?_
  rintro e W0 ⟨rfl, k, hW0⟩
  rw [show ((0 - 0 : Nat) : Int) = 0 from rfl]
  have hfr0 : Fr (· = b) w W0 := hW0 ▸ Fr.drewN k
  have hsz0 : W0.heap.size = w.heap.size := by rw [← hW0]; rfl
  have hbk0 : LibA.Three W0 b q T R (.slice none 0 0) (.int .i64 0) (.int .i8 lr) := by rw [← hW0]; exact hbk
  have c0 : W0.cell? ⟨b, q, none⟩ = some (.slice none 0 0) := hbk0.c0
  have c1 : W0.cell? ⟨b, q + 1, none⟩ = some (.int .i64 0) := hbk0.c1
  have f0 : W0.frozen? ⟨b, q, none⟩ = false := hbk0.f q
  have f1 : W0.frozen? ⟨b, q + 1, none⟩ = false := hbk0.f (q + 1)
  have hbW := hbk0.lt
  have c0a : ∀ o, (W0.alloc o).cell? ⟨b, q, none⟩ = some (.slice none 0 0) := fun o => (World.cell?_of_block (a := ⟨b, q, none⟩) (Below.heap_alloc W0 o b hbW)).trans c0
  have f0a : ∀ o, (W0.alloc o).frozen? ⟨b, q, none⟩ = false := fun o => (World.frozen?_of_block (a := ⟨b, q, none⟩) (Below.heap_alloc W0 o b hbW)).trans f0
  clear hW0 hbk
  have Hsz0 := Lib.hid hsz0
  have Hfr0 := Lib.hid hfr0
  clear hsz0 hfr0
  go_wp2_with fail
  refine (Tryd.Buffer_tryGrow_none_at b q _ 0 0 n _ c0 (Nat.zero_le _) (Nat.zero_le _) (by omega)).mono ?_
  rintro e w' ⟨rfl, hw'⟩
  obtain rfl : W0 = w' := hw'.symm
  clear hw'
  go_wp2
  go_ret
  have hsz := Hsz0.out
  have hne : w.heap.size ≠ b := by have := hbW; rw [hsz] at this; omega
  rw [hsz]
  refine ⟨rfl, 64, lr, M, ?_, ?_, hMs, by simpa using h64, by unfold maxLen; omega, by simp [Lib.byteCells], ?_⟩
  · have h3 := (hbk0.set0 (.slice (some ⟨w.heap.size, 0, none⟩) n 64))
    have h4 : LibA.Three ((W0.setCell ⟨b, q, none⟩ (.slice (some ⟨w.heap.size, 0, none⟩) n 64)).alloc (.cells M 5)) b q T R (.slice (some ⟨w.heap.size, 0, none⟩) n 64) (.int .i64 0) (.int .i8 lr) :=
      h3.of_heap (Below.heap_alloc _ _ _ (by simpa [World.setCell] using hbW))
    simpa using h4
  · have h5 := heap_alloc_new (W0.setCell ⟨b, q, none⟩ (.slice (some ⟨w.heap.size, 0, none⟩) n 64)) (.cells M 5)
    have h6 : (W0.setCell ⟨b, q, none⟩ (.slice (some ⟨w.heap.size, 0, none⟩) n 64)).heap.size = w.heap.size := by simpa [World.setCell] using hsz
    rw [h6] at h5
    exact h5
  · exact (Hfr0.out.trans (Fr.setCell (S := (· = b)) _ _ rfl) (fun _ _ h => h)).trans (T := (· = b)) (Fr.alloc _) (fun _ _ h => h)

set_option maxHeartbeats 4000000 in
set_option maxRecDepth 100000 in
/-- grow, the buffer is nil, more than 64 bytes. -/
theorem grow_nil_big (T : TypeId) (R : Nat → Option Value) (b q n : Nat) (lr : Int) (w : World)
    (hbk : LibA.Three w b q T R (.slice none 0 0) (.int .i64 0) (.int .i8 lr))
    (hn : 64 < n) (hlim : n ≤ 1000000) :
    Calls Tryd.prog 40 #[.pointer (some ⟨b, q, none⟩), .int .i64 n] w fun e w' => e = .returned (.int .i64 0) ∧ Grew T R b q n [] w w' := by
  have hnil : ∀ W, (binOp .eql 22 (.slice none 0 0) (.slice none 0 0)).run Tryd.prog W = .ok (.bool true) W := fun W => Lib.run_eql_slice_nil_nil W _ _ Tryd.underlying22
  go_enter Tryd.func40, Tryd.ntmps40
  go_wp2_with fail
  refine (len_at b q _ 0 0 0 _ hbk.c0 hbk.c1 (by omega) (by omega)).mono ?_
  rintro e W0 ⟨rfl, k, hW0⟩
  rw [show ((0 - 0 : Nat) : Int) = 0 from rfl]
  have hfr0 : Fr (· = b) w W0 := hW0 ▸ Fr.drewN k
  have hsz0 : W0.heap.size = w.heap.size := by rw [← hW0]; rfl
  have hbk0 : LibA.Three W0 b q T R (.slice none 0 0) (.int .i64 0) (.int .i8 lr) := by rw [← hW0]; exact hbk
  have c0 : W0.cell? ⟨b, q, none⟩ = some (.slice none 0 0) := hbk0.c0
  have c1 : W0.cell? ⟨b, q + 1, none⟩ = some (.int .i64 0) := hbk0.c1
  have f0 : W0.frozen? ⟨b, q, none⟩ = false := hbk0.f q
  have f1 : W0.frozen? ⟨b, q + 1, none⟩ = false := hbk0.f (q + 1)
  have hbW := hbk0.lt
  clear hW0 hbk
  have Hsz0 := Lib.hid hsz0
  have Hfr0 := Lib.hid hfr0
  clear hsz0 hfr0
  go_wp2_with fail
  refine (Tryd.Buffer_tryGrow_none_at b q _ 0 0 n _ c0 (Nat.zero_le _) (Nat.zero_le _) (by omega)).mono ?_
  rintro e w' ⟨rfl, hw'⟩
  obtain rfl : W0 = w' := hw'.symm
  clear hw'
  go_wp2_with fail
  have hwn : IntKind.i64.wrap (n : Int) = n := by rw [IntKind.wrap_i64]; omega
  go_region_with (
      go_at_call 42
      refine (Tryd.bytes_growSlice_nil n _ (by omega) (by omega)).mono ?_
      rintro e w2 ⟨cap2, cells, rfl, hN, hcsz, hcap2, hcm2, hbel⟩
      have hbk2 : LibA.Three w2 b q T R (.slice none 0 0) (.int .i64 0) (.int .i8 lr) := hbk0.of_heap (hbel.block b hbW)
      have d0 : w2.cell? ⟨b, q, none⟩ = some (.slice none 0 0) := hbk2.c0
      have d1 : w2.cell? ⟨b, q + 1, none⟩ = some (.int .i64 0) := hbk2.c1
      have e0 : w2.frozen? ⟨b, q, none⟩ = false := hbk2.f q
      have e1 : w2.frozen? ⟨b, q + 1, none⟩ = false := hbk2.f (q + 1))
  all_goals (
    go_wp2
    go_ret
    have hsz := Hsz0.out
    have hN2 : w2.heap[w.heap.size]? = some (.cells cells 5 (0, 0)) := by rw [← hsz]; exact hN
    have hne : w.heap.size ≠ b := by have := hbW; rw [hsz] at this; omega
    have hfr : Fr (· = b) w w2 := (Hfr0.out.trans (T := (· = b)) Fr.drew (fun _ _ h => h)).trans (Fr.of_below hbel) (fun i hi hT => by have : W0.heap.size ≤ i := hT; omega)
    rw [hsz]
    refine ⟨rfl, cap2, lr, cells, by simpa using ((hbk2.set0 _).set1 _).set0 _, ?_, hcsz, by simpa using hcap2, hcm2, by simp [Lib.byteCells], ?_⟩
    · rw [Below.heap_setCell _ _ _ _ hne, Below.heap_setCell _ _ _ _ hne, Below.heap_setCell _ _ _ _ hne]; exact hN2
    · exact ((hfr.trans (Fr.setCell (S := (· = b)) _ _ rfl) (fun _ _ h => h)).trans (Fr.setCell (S := (· = b)) _ _ rfl) (fun _ _ h => h)).trans (Fr.setCell (S := (· = b)) _ _ rfl) (fun _ _ h => h))
end Go.Proofs.YtempflfhlbojgaaDoor
