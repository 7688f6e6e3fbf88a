/-
  The walk of bufio.Reader.ReadSlice.
-/
import Derived.Test.YtempflfhlbojgaaDoorFill
import Derived.Test.YtempflfhlbojgaaDoorCodW
namespace Go.Proofs.YtempflfhlbojgaaDoor
open Go.RowKit

theorem indexByte_split (c : UInt8) : ∀ (pre rest : List UInt8), c ∉ pre → Lib.indexByte (pre ++ c :: rest) c = (pre.length : Int)
  | [], rest, _ => by simp [Lib.indexByte]
  | x :: pre, rest, h => by
    have ih := indexByte_split c pre rest (fun hx => h (List.mem_cons_of_mem _ hx))
    have hx : (x == c) = false := by
      simp only [beq_eq_false_iff_ne]
      exact fun e => h (e ▸ List.mem_cons_self)
    have h1 : ((pre.length : Int) == -1) = false := by simp
    simp only [List.cons_append, Lib.indexByte, hx, ih, List.length_cons, h1]
    simp

theorem index_found (b o n cp : Nat) (c : UInt8) (pre rest : List UInt8) (w : World) (hat : At w ⟨b, o, none⟩ (pre ++ c :: rest)) (hn : (pre ++ c :: rest).length = n) (hc : c ∉ pre) :
    Calls Tryd.prog 73 #[.slice (some ⟨b, o, none⟩) n cp, .int .u8 c.toNat] w fun e w' => e = .returned (.int .i64 pre.length) ∧ w' = w := by
  have h := Tryd.bytes_IndexByte b o n cp ((pre ++ c :: rest).map fun x => (x.toNat : Int)) (c.toNat : Int) w (by simpa using hn) (fun i hi => by
    have hi' : i < (pre ++ c :: rest).length := by omega
    rw [hat.cell hi', List.getD, List.getElem?_map, List.getElem?_eq_getElem hi']
    rfl)
  have e1 : Lib.bytesOf ((pre ++ c :: rest).map fun x => (x.toNat : Int)) = pre ++ c :: rest := by
    rw [Lib.bytesOf, List.map_map]
    conv => rhs; rw [← List.map_id (pre ++ c :: rest)]
    apply List.map_congr_left
    intro x _
    simp
  have e2 : ((c.toNat : Int)).toNat.toUInt8 = c := by simp
  rw [e1, e2, indexByte_split c pre rest hc] at h
  exact h

theorem index_found10 (b o n cp m : Nat) (pre rest : List UInt8) (w : World) (hm : pre.length = m) (hat : At w ⟨b, o, none⟩ (pre ++ 10 :: rest)) (hn : (pre ++ 10 :: rest).length = n) (hc : (10 : UInt8) ∉ pre) :
    Calls Tryd.prog 73 #[.slice (some ⟨b, o, none⟩) n cp, .int .u8 10] w fun e w' => e = .returned (.int .i64 m) ∧ w' = w := by subst hm; exact index_found b o n cp 10 pre rest w hat hn hc

theorem index_none (b o cp : Nat) (c : Int) (w : World) : Calls Tryd.prog 73 #[.slice (some ⟨b, o, none⟩) 0 cp, .int .u8 c] w fun e w' => e = .returned (.int .i64 (-1)) ∧ w' = w :=
  Tryd.bytes_IndexByte b o 0 cp [] c w rfl (fun i hi => by omega)

theorem Rdr.set3 {rb bb sb r n : Nat} {lb lr : Int} {w : World} (h : Rdr rb bb sb r n lb lr w) (r' : Nat) (x y : Int) :
    Rdr rb bb sb r' n x y (((w.setCell ⟨rb, 2, none⟩ (.int .i64 r')).setCell ⟨rb, 5, none⟩ (.int .i64 x)).setCell ⟨rb, 6, none⟩ (.int .i64 y)) ∧
      Fr (· = rb) w (((w.setCell ⟨rb, 2, none⟩ (.int .i64 r')).setCell ⟨rb, 5, none⟩ (.int .i64 x)).setCell ⟨rb, 6, none⟩ (.int .i64 y)) := by
  constructor
  · have := Lib.heap_setCell_same (i := 6) (Lib.heap_setCell_same (i := 5) (Lib.heap_setCell_same (i := 2) h (.int .i64 r')) (.int .i64 x)) (.int .i64 y)
    simpa [Rdr] using this
  · have f : ∀ (u : World) (i : Nat) (v : Value), Fr (· = rb) u (u.setCell ⟨rb, i, none⟩ v) := fun u i v => Fr.setCell _ _ rfl
    exact ((f _ _ _).trans (f _ _ _) (fun _ _ h => h)).trans (f _ _ _) (fun _ _ h => h)

set_option maxHeartbeats 4000000 in
set_option maxRecDepth 100000 in
theorem readSlice_found (rb bb sb r n m : Nat) (lb lr : Int) (T pre rest : List UInt8) (w : World) (hr : Rdr rb bb sb r n lb lr w) (hat : At w ⟨bb, 0, none⟩ T) (hT : T.length = n) (hn : n ≤ 4096) (hrn : r ≤ n) (hsp : T.drop r = pre ++ 10 :: rest) (hpre : (10 : UInt8) ∉ pre) (hm : pre.length = m) (hrb : rb ≠ bb) :
    Calls Tryd.prog 84 #[.pointer (some ⟨rb, 0, none⟩), .int .u8 10] w fun e w' => e = .returned (.tuple #[.slice (some ⟨bb, r, none⟩) (m + 1) (4096 - r), .nilIface]) ∧ Rdr rb bb sb (r + (m + 1)) n 10 (-1) w' ∧ Fr (· = rb) w w' := by
  obtain ⟨c0, c1, c2, c3, c4, c5, c6, fz, hlt⟩ := hr.cells
  have fz2 := fz 2
  have fz5 := fz 5
  have fz6 := fz 6
  have hlen : r + (m + 1) ≤ n := by
    have := congrArg List.length hsp
    rw [List.length_drop, List.length_append, List.length_cons, hT, hm] at this
    omega
  have hat2 : At w ⟨bb, r, none⟩ (pre ++ 10 :: rest) := by
    have := hat.drop r (T.length - r)
    rw [List.take_of_length_le (by rw [List.length_drop]; exact Nat.le_refl _), hsp, Nat.zero_add] at this
    exact this
  have hl2 : (pre ++ 10 :: rest).length = n - r := by rw [← hsp, List.length_drop, hT]
  have hlast : w.cell? ⟨bb, r + m, none⟩ = some (.int .u8 10) := by
    have := hat2.cell (i := m) (by rw [hl2]; omega)
    rw [this]
    subst hm
    simp
  have i1 : (0 : Int) ≤ (r : Int) := by omega
  have i2 : (r : Int) ≤ (n : Int) := by omega
  have i3 : (n : Int) ≤ 4096 := by omega
  have hne : ¬ (4096 = r) := by omega
  have i4 : (r : Int) + (m : Int) + 1 ≤ 4096 := by omega
  have i5 : (r : Int) ≤ (r : Int) + (m : Int) + 1 := by omega
  have i6 : (0 : Int) ≤ (m : Int) := by omega
  have hnn : r + m + 1 - r = m + 1 := by omega
  have hbr : bb ≠ rb := fun e => hrb e.symm
  have hm1 : ((m + 1 : Nat) : Int) - 1 = (m : Int) := by omega
  have iw1 : IntKind.i64.wrap (r : Int) = (r : Int) := wrap_i64_of _ (by omega) (by omega)
  have Hr := Lib.hid hr
  have Hat2 := Lib.hid hat2
  have Hl2 := Lib.hid hl2
  have Hm := Lib.hid hm
  clear hr hat2 hl2 hat hT hsp hm
  go_enter Tryd.func84, Tryd.ntmps84
  go_wp2_with fail
  refine wp_loop_rounds 1 ?_
  rw [rounds_succ]
  go_wp2_with fail
  go_region_held3 (fun w' => w'.cell? ⟨rb, 0, none⟩ = some (.slice (some ⟨bb, 0, none⟩) 4096 4096) ∧ w'.cell? ⟨rb, 2, none⟩ = some (.int .i64 r) ∧ w'.cell? ⟨rb, 3, none⟩ = some (.int .i64 n)) (refine ⟨?_, ?_, ?_⟩ <;> assumption)
    (first | (go_at_call 73; refine (index_found10 bb r (n - r) _ m pre rest _ Hm.out (by exact Hat2.out) Hl2.out hpre).mono ?_; rintro e w1 ⟨rfl, hw1⟩; obtain rfl := hw1))
  go_wp2_with fail
  go_quiet (fail)
  go_wp2_with fail
  go_ret2
  obtain ⟨h1, h2⟩ := Rdr.set3 (show Rdr rb bb sb r n lb lr (w.drewN (1 + nq)) from Hr.out) (r + (m + 1)) 10 (-1)
  rw [show ((r + (m + 1) : Nat) : Int) = (r : Int) + ((m : Int) + 1) from by omega] at h1 h2
  refine ⟨?_, h1, (Fr.drewN (S := (· = rb)) (1 + nq)).trans h2 (fun _ _ h => h)⟩
  show Ending.returned (Value.tuple #[Value.slice (some ⟨bb, r, none⟩) (r + m + 1 - r) (4096 - r), Value.nilIface]) = _
  rw [hnn]
end Go.Proofs.YtempflfhlbojgaaDoor
