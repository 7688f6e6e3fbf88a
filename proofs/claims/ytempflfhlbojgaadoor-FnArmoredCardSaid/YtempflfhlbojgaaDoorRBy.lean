/-
  The walks of collectFragments and ReadBytes, where ReadSlice finds its sign.
-/
import Derived.Test.YtempflfhlbojgaaDoorRSl
import Derived.OwnWalk
namespace Go.Proofs.YtempflfhlbojgaaDoor
open Go.RowKit

/-- make([]byte, n). -/
theorem wpList_make_bytes {w : World} {ops : Array Oper} {rest : List Oper} {o : Oper} {a : Act} {Q : Exit → Act → World → Prop} (hg : o.guard = none) (l c : Operand) (hop : o.op = Op.makeSlice 22 l c) (n : Nat) (hl : a.eval l = .int .i64 n) (hc : a.eval c = .int .i64 n) (hn : n ≤ 100000)
    (hK : ∀ w' cur, Hid (w'.heap[w.heap.size]? = some (.cells cur 5 (0, 0))) → cur.size = n → Hid (Fr (fun _ => False) w w') → wpList Tryd.prog ops Q rest (a.put o.dst (.slice (some ⟨w.heap.size, 0, none⟩) n n)) w') : wpList Tryd.prog ops Q (o :: rest) a w := by
  have h5 := info5
  rw [Option.map_eq_some_iff] at h5
  obtain ⟨i, hi, he⟩ := h5
  have e1 : i.zero = some (.int .u8 0) := congrArg (·.1) he
  have e2 : i.size = 1 := congrArg (·.2.1) he
  have e3 : i.bytes = 1 := congrArg (·.2.2) he
  refine wpList_make_full w hg l c 22 hop 0 5 i (.int .u8 0) 1 Tryd.underlying22 hi e1 e2 .i64 .i64 n n n hl hc rfl rfl (by rw [e3]; omega) (by unfold maxLen; omega) (Nat.zero_le _) ?_
  rintro w' ⟨_, h | ⟨g, cap, cur, h1, _, h2, _, _, h3, _⟩⟩ hgr
  · cases h.1
  · injection h1 with h1 _ h4
    injection h1 with h1
    injection h1 with h1
    subst h1
    subst h4
    exact hK w' cur h2 (by omega) (Fr.grown hgr (fun k hk => by cases hk))

set_option maxHeartbeats 4000000 in
set_option maxRecDepth 100000 in
theorem collect_of (rb L C : Nat) (a : Option Addr) (w : World) (R : World → Prop) (hL : L ≤ 100000) (hc : Calls Tryd.prog 84 #[.pointer (some ⟨rb, 0, none⟩), .int .u8 10] w fun e w' => e = .returned (.tuple #[.slice a L C, .nilIface]) ∧ R w') :
    Calls Tryd.prog 76 #[.pointer (some ⟨rb, 0, none⟩), .int .u8 10] w fun e w' => e = .returned (.tuple #[.slice none 0 0, .slice a L C, .int .i64 L, .nilIface]) ∧ R w' := by
  have Hc := Lib.hid hc
  clear hc
  go_enter Tryd.func76, Tryd.ntmps76
  go_wp2_with fail
  refine wp_loop_rounds 1 ?_
  rw [rounds_succ]
  go_wp2_with fail
  refine Hc.out.mono ?_
  rintro e w1 ⟨rfl, hR⟩
  have HR := Lib.hid hR
  clear hR
  go_wp2_with fail
  go_returns
  exact ⟨rfl, HR.out⟩

set_option maxHeartbeats 4000000 in
set_option maxRecDepth 100000 in
theorem readBytes_of (rb bb o L C : Nat) (l : List UInt8) (w : World) (R : World → Prop) (hL : L ≤ 4096) (hL1 : 1 ≤ L) (hl : l.length = L) (hat : ∀ w', R w' → At w' ⟨bb, o, none⟩ l) (hc : Calls Tryd.prog 84 #[.pointer (some ⟨rb, 0, none⟩), .int .u8 10] w fun e w' => e = .returned (.tuple #[.slice (some ⟨bb, o, none⟩) L C, .nilIface]) ∧ R w') :
    Calls Tryd.prog 66 #[.pointer (some ⟨rb, 0, none⟩), .int .u8 10] w fun e w' => ∃ g w1, e = .returned (.tuple #[.slice (some ⟨g, 0, none⟩) L L, .nilIface]) ∧ R w1 ∧ w1.heap.size ≤ g ∧ At w' ⟨g, 0, none⟩ l ∧ Fr (fun _ => False) w1 w' := by
  have hcf := collect_of rb L C (some ⟨bb, o, none⟩) w R (by omega) hc
  have Hc := Lib.hid hcf
  clear hcf hc
  go_enter Tryd.func66, Tryd.ntmps66
  go_wp2_with fail
  refine Hc.out.mono ?_
  rintro e w1 ⟨rfl, hR⟩
  have hat1 := hat w1 hR
  have HR := Lib.hid hR
  have Hat1 := Lib.hid hat1
  have hl5 : (Lib.byteCells l).length = L := by rw [byteCells_length, hl]
  have Hl5 := Lib.hid hl5
  clear hR hat1 hl5 hat
  go_wp2_with (with_reducible refine wpList_make_bytes rfl _ _ rfl L rfl rfl (by omega) ?_; intro w2 cur h2 hcur f2)
  have hat7 : 0 < L → ∃ ad, (some ⟨bb, o, none⟩ : Option Addr) = some ad ∧ ∀ j v, (Lib.byteCells l)[j]? = some v → w2.cell? (ad.add j) = some v := fun _ => ⟨_, rfl, Hat1.out.fr f2.out (fun h => h)⟩
  have Hat7 := Lib.hid hat7
  have hne : ¬ (L = 0) := by omega
  clear hat7
  refine wp_loop_rounds 1 ?_
  rw [rounds_succ]
  go_wp2_with (with_reducible refine wpList_copy_fr rfl _ _ 22 22 rfl 5 Tryd.underlying22 size5 _ _ _ _ _ _ rfl rfl w1.heap.size 0 L cur 5 (by exact h2.out) (Lib.byteCells l) Hl5.out (Nat.min_self _).symm (fun h => ⟨rfl, Hat7.out h⟩) (by omega) (row_oneCell _) ?_; intro w5 h5 f5)
  go_ret2
  refine ⟨_, w1, rfl, HR.out, Nat.le_refl _, At.splice h5.out (by rw [hl]; simp; omega), ?_⟩
  exact f2.out.after f5.out (fun i hi h => by omega)
end Go.Proofs.YtempflfhlbojgaaDoor
