/-
  The walks of all (two rounds), of Unarmored's closure, of calm over it, and of Unarmored, at the armored "abc".
-/
import Derived.Test.YtempflfhlbojgaaDoorRAr
import Derived.Test.YtempflfhlbojgaaDoorRAe
namespace Go.Proofs.YtempflfhlbojgaaDoor
open Go.RowKit

/-- append of bytes to nil. -/
theorem wpList_append_new {w : World} {ops : Array Oper} {rest : List Oper} {o : Oper} {a : Act} {Q : Exit → Act → World → Prop} (hg : o.guard = none) (s x : Operand) (hop : o.op = .call { callee := .builtin .append, args := #[s, x], argTypes := #[22, 22] })
    (hs : a.eval s = .slice none 0 0) (ad : Addr) (m c : Nat) (hx : a.eval x = .slice (some ad) m c) (l : List UInt8) (hl : l.length = m) (hm : 0 < m) (hb : m ≤ 100000) (hat : At w ad l)
    (hK : ∀ g cap w', Hid (w'.ownsRow 0 5 1 (.slice (some ⟨g, 0, none⟩) m cap) m (Lib.byteCells l)) → w.heap.size ≤ g → Hid (Fr (fun _ => False) w w') → wpList Tryd.prog ops Q rest (a.put o.dst (.slice (some ⟨g, 0, none⟩) m cap)) w') : wpList Tryd.prog ops Q (o :: rest) a w := by
  have h5 := info5
  rw [Option.map_eq_some_iff] at h5
  obtain ⟨i, hi, he⟩ := h5
  have e1 : i.zero = some (.int .u8 0) := congrArg (·.1) he
  have e2 : i.size = 1 := congrArg (·.2.1) he
  have e3 : i.bytes = 1 := congrArg (·.2.2) he
  have hl5 : (Lib.byteCells l).length = m := by rw [byteCells_length, hl]
  refine wpList_append_own w hg s x 22 hop w.heap.size 5 i (.int .u8 0) 1 1 Tryd.underlying22 hi e1 e2 e3 rfl (by omega) _ 0 [] hs ⟨rfl, .inl ⟨rfl, rfl⟩⟩ ad m c (Lib.byteCells l) hx (by omega) hat (row_oneCell _) (by unfold maxLen; omega) (by omega) (Nat.le_refl _) ?_
  intro v' w' h1 h2 h3
  rw [List.nil_append, Nat.zero_add] at h1
  have f : Fr (fun _ => False) w w' := Fr.grown h2 (fun k hk => by cases hk)
  obtain ⟨q, h | ⟨g, cap, cur, rfl, hg2, r⟩⟩ := h1
  · exact absurd (h3.1 h.1).2 (by omega)
  · exact hK g cap w' ⟨q, .inr ⟨g, cap, cur, rfl, Nat.zero_le _, r⟩⟩ hg2 f

theorem At.owns {w : World} {g n cap : Nat} {l : List UInt8} (h : w.ownsRow 0 5 1 (.slice (some ⟨g, 0, none⟩) n cap) n (Lib.byteCells l)) : At w ⟨g, 0, none⟩ l := by
  obtain ⟨hn, h | ⟨g', cap', cur, h1, _, h2, h3, _, h5, h6⟩⟩ := h
  · cases h.1
  · injection h1 with h1 _ h4
    injection h1 with h1
    injection h1 with h1
    subst h1
    intro j v hj
    rw [Addr.add_mid, Nat.zero_add, cell_of_row _ _ _ _ _ _ h2]
    rw [← h6, List.getElem?_take] at hj
    split at hj
    · rw [← hj]; simp
    · cases hj

theorem nil_ahead65 (F : Nat) (a : Addr) (w : World) : (nilAhead (F + 1) 65 (.pointer (some a)) "Read").run Tryd.prog w = .ok (some false) w := by kernel_rfl
theorem method65 (F : Nat) (a : Addr) (w : World) : (method (F + 1) 65 (.pointer (some a)) "Read").run Tryd.prog w = .ok (63, .pointer (some a)) w := by kernel_rfl

set_option maxHeartbeats 4000000 in
set_option maxRecDepth 100000 in
theorem all_abc (xb sb rb bb arb c : Nat) (row : Array Value) (pE : Addr) (w : World) (hE : w.cell? ⟨0, 0, none⟩ = some (.iface 108 (.pointer (some pE)))) (har : Ar arb rb false (.slice none 0 0) .nilIface w) (hr : Rdr rb bb sb 0 0 (-1) (-1) w)
    (hs : w.heap[sb]? = some (.cells #[.slice (some ⟨xb, 0, none⟩) 73 c, .int .i64 0] 52 (0, 0))) (hb : w.heap[bb]? = some (.cells row 5 (0, 0))) (hrow : row.size = 4096)
    (hatx : At w ⟨xb, 0, none⟩ abcText) (hc : 73 ≤ c) (hc2 : c ≤ 9223372036854775807) (h0 : 0 < xb) (h1 : xb < sb) (h2 : sb < rb) (h3 : rb < bb) (h4 : bb < arb) :
    Calls Tryd.prog 19 #[.iface 65 (.pointer (some ⟨arb, 0, none⟩)), .int .i64 0] w fun e w' => ∃ g cp, e = .returned (.tuple #[.slice (some ⟨g, 0, none⟩) 3 cp, .nilIface]) ∧ At w' ⟨g, 0, none⟩ [97, 98, 99] ∧ Fr (fun k => sb ≤ k) w w' ∧ w.heap.size ≤ g := by
  have hal := har.cells.2.2.2.2.2
  have hna := fun F a w => nil_ahead65 F a w
  have hme := fun F a w => method65 F a w
  have hnil : ∀ w, (binOp .eql 44 .nilIface (.iface 108 (.pointer (some pE)))).run Tryd.prog w = .ok (.bool false) w := fun w => run_eql_iface_nil_left w 108 _ Tryd.underlying44
  have heq := eof_eq pE
  have HE := Lib.hid hE
  have Har := Lib.hid har
  have Hr := Lib.hid hr
  have Hs := Lib.hid hs
  have Hb := Lib.hid hb
  have Hatx := Lib.hid hatx
  clear hE har hr hs hb hatx
  go_enter Tryd.func19, Tryd.ntmps19
  go_wp2_with (with_reducible refine wpList_make_bytes rfl _ _ rfl 512 rfl rfl (by omega) ?_; intro w1 cur k1 hcur f1)
  refine wp_loop_rounds 2 ?_
  rw [rounds_succ]
  go_wp2_with fail
  refine (armread_abc xb sb rb bb arb w.heap.size c row cur pE w1 (f1.out.cell HE.out (fun h => h)) (Har.out.fr f1.out (fun h => h)) (Hr.out.fr f1.out (fun h => h)) (f1.out.keep Hs.out (fun h => h)) (f1.out.keep Hb.out (fun h => h)) hrow k1.out hcur (Hatx.out.fr f1.out (fun h => h)) hc hc2 h0 h1 h2 h3 h4 hal).mono ?_
  rintro e w2 ⟨rfl, at2, ⟨st2, a2, c2, ar2⟩, f2⟩
  have hE2 := f2.cell (f1.out.cell HE.out (fun h => h)) (by show ¬ sb ≤ 0; omega)
  have t2 : Fr (fun k => sb ≤ k) w w2 := (f1.out.none (S := fun k => sb ≤ k)).trans f2 (fun _ _ h => h)
  have z2 : w.heap.size < w2.heap.size := by have := (Array.getElem?_eq_some_iff.1 k1.out).1; have := f2.size; omega
  have At2 := Lib.hid at2
  have Ar2 := Lib.hid ar2
  have T2 := Lib.hid t2
  clear at2 ar2 f2 t2
  go_wp2_with (with_reducible refine wpList_append_new rfl _ _ rfl rfl ⟨w.heap.size, 0, none⟩ 3 512 rfl [97, 98, 99] rfl (by omega) (by omega) At2.out ?_; intro g cap w3 h3 hg3 f3; have hE3 := f3.out.cell hE2 (fun h => h))
  have Ar3 := Lib.hid (Ar2.out.fr f3.out (fun h => h))
  have hcp : 3 ≤ cap := by
    obtain ⟨_, h | ⟨g', cap', cur', e1, _, _, e3, _⟩⟩ := h3.out
    · cases h.1
    · injection e1 with _ _ e4; omega
  rw [rounds_succ]
  go_wp2_with fail
  refine (armread_end arb rb st2 a2 c2 _ _ w3 Ar3.out).mono ?_
  rintro e w4 ⟨rfl, f4⟩
  have hE4 := f4.cell hE3 (fun h => h)
  have hgl : g < w3.heap.size := by
    obtain ⟨_, h | ⟨g', cap', cur', e1, _, e2, _⟩⟩ := h3.out
    · cases h.1
    · injection e1 with e1; injection e1 with e1; injection e1 with e1; subst e1; exact (Array.getElem?_eq_some_iff.1 e2).1
  have h4 : w4.ownsRow 0 5 1 (.slice (some ⟨g, 0, none⟩) 3 cap) 3 (Lib.byteCells [97, 98, 99]) := by
    obtain ⟨q, h | ⟨g', cap', cur', e1, e0, e2, e3⟩⟩ := h3.out
    · cases h.1
    · exact ⟨q, .inr ⟨g', cap', cur', e1, e0, f4.keep e2 (fun h => h), e3⟩⟩
  have hg0 : g ≠ 0 := by omega
  have H4 := Lib.hid h4
  have F4 := Lib.hid f4
  clear h4 f4
  go_wp2_with fail
  go_ret2
  refine ⟨g, cap, rfl, At.owns H4.out, ?_, by omega⟩
  exact (T2.out.trans f3.out (fun _ _ h => h.elim)).trans F4.out (fun _ _ h => h.elim)
end Go.Proofs.YtempflfhlbojgaaDoor
