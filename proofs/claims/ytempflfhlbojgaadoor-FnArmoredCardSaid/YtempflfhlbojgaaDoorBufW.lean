/-
  The walks of bytes.Buffer's Write, Bytes, Reset, WriteTo, for a buffer that has only been written; with a frame that names the blocks which may have turned.
-/
import Derived.Test.YtempflfhlbojgaaDoorBufG
namespace Go.Proofs.YtempflfhlbojgaaDoor
open Go.RowKit

/-- The cell and the row of a buffer that owns a row. -/
theorem Buf.cases {T : TypeId} {R : Nat → Option Value} {B b o : Nat} {v : Value} {l : List UInt8} {w : World} (h : Buf T R B b o v l w) :
    B ≤ b ∧ ∃ lr, LibA.Three w b o T R v (.int .i64 0) (.int .i8 lr) ∧
      ((l = [] ∧ v = .slice none 0 0) ∨ ∃ g cap cur, v = .slice (some ⟨g, 0, none⟩) l.length cap ∧ B ≤ g ∧ w.heap[g]? = some (.cells cur 5 (0, 0)) ∧ l.length ≤ cap ∧ cap ≤ maxLen ∧ cur.size = cap ∧ cur.toList.take l.length = Lib.byteCells l ∧ g ≠ b) := by
  obtain ⟨h1, ⟨lr, h2⟩, ⟨h3, h3'⟩, h4⟩ := h
  refine ⟨h1, lr, h2, ?_⟩
  rcases h3' with ⟨e1, e2⟩ | ⟨g, cap, cur, e1, e2, e3, e4, e5, e6, e7⟩
  · exact .inl ⟨List.length_eq_zero_iff.1 e2, e1⟩
  · refine .inr ⟨g, cap, cur, e1, e2, e3, e4, e5, by omega, by simpa using e7, ?_⟩
    subst e1
    intro e
    exact h4 (by simp [Value.ownBlock, e])

theorem Buf.mk {T : TypeId} {R : Nat → Option Value} {B b o g cap : Nat} {lr : Int} {cur : Array Value} {l : List UInt8} {w : World} (hB : B ≤ b) (h : LibA.Three w b o T R (.slice (some ⟨g, 0, none⟩) l.length cap) (.int .i64 0) (.int .i8 lr))
    (hg : B ≤ g) (hr : w.heap[g]? = some (.cells cur 5 (0, 0))) (hlc : l.length ≤ cap) (hcm : cap ≤ maxLen) (hcs : cur.size = cap) (ht : cur.toList.take l.length = Lib.byteCells l) (hne : g ≠ b) : Buf T R B b o (.slice (some ⟨g, 0, none⟩) l.length cap) l w :=
  ⟨hB, ⟨lr, h⟩, ⟨by rw [byteCells_length, Nat.mul_one], .inr ⟨g, cap, cur, rfl, hg, hr, hlc, hcm, by omega, by simpa using ht⟩⟩, by simp [Value.ownBlock]; exact hne⟩

theorem setRow_get (w : World) (g : Nat) (cs cur : Array Value) (t : TypeId) (h : w.heap[g]? = some (.cells cur t (0, 0))) : (w.setRow g cs).heap[g]? = some (.cells cs t (0, 0)) := setRow_heap w g cur cs t (0, 0) h

/-- What the copy behind a growth leaves. -/
theorem write_end {T : TypeId} {R : Nat → Option Value} {B b q g cap : Nat} {lr : Int} {cur : Array Value} {l cs : List UInt8} {w W : World} {S : Nat → Prop} (hBb : B ≤ b)
    (hbk : LibA.Three W b q T R (.slice (some ⟨g, 0, none⟩) (l.length + cs.length) cap) (.int .i64 0) (.int .i8 lr)) (hg : W.heap[g]? = some (.cells cur 5 (0, 0))) (hBg : B ≤ g) (hcs : cur.size = cap)
    (hlc : l.length + cs.length ≤ cap) (hcm : cap ≤ maxLen) (ht : cur.toList.take l.length = Lib.byteCells l) (hne : g ≠ b) (hfr : Fr S w W) (hSg : g < w.heap.size → S g) :
    Buf T R B b q (.slice (some ⟨g, 0, none⟩) (l.length + cs.length) cap) (l ++ cs) (W.setRow g (cur.toList.take l.length ++ (Lib.byteCells cs ++ cur.toList.drop (l.length + cs.length))).toArray) ∧
      Fr S w (W.setRow g (cur.toList.take l.length ++ (Lib.byteCells cs ++ cur.toList.drop (l.length + cs.length))).toArray) := by
  obtain ⟨X, hX⟩ : ∃ X, X = (cur.toList.take l.length ++ (Lib.byteCells cs ++ cur.toList.drop (l.length + cs.length))).toArray := ⟨_, rfl⟩
  rw [← hX]
  constructor
  · have hlen : (cur.toList.take l.length).length = l.length := by simp; omega
    rw [← List.length_append]
    refine Buf.mk (cur := X) (lr := lr) hBb ?_ hBg (setRow_get W g X cur 5 hg) (by rw [List.length_append]; exact hlc) hcm ?_ ?_ hne
    · rw [List.length_append]
      exact hbk.of_heap (by simp only [World.setRow, Array.getElem?_modify]; rw [if_neg hne])
    · rw [hX]; simp [byteCells_length]; omega
    · rw [hX]
      show List.take (l ++ cs).length (cur.toList.take l.length ++ (Lib.byteCells cs ++ cur.toList.drop (l.length + cs.length))) = _
      rw [ht, byteCells_append, ← List.append_assoc]
      exact List.take_left' (by rw [List.length_append, List.length_append, byteCells_length, byteCells_length])
  · exact hfr.trans (T := (· = g)) (Fr.setRow g _ rfl) (fun i hi e => by have e' : i = g := e; subst e'; exact hSg hi)

set_option maxHeartbeats 4000000 in
set_option maxRecDepth 100000 in
/-- Write, there is room. -/
theorem write_room (T : TypeId) (R : Nat → Option Value) (B b q g cap : Nat) (lr : Int) (cur : Array Value) (l cs : List UInt8) (a : Addr) (c : Nat) (w : World)
    (hBb : B ≤ b) (hbk : LibA.Three w b q T R (.slice (some ⟨g, 0, none⟩) l.length cap) (.int .i64 0) (.int .i8 lr)) (hBg : B ≤ g) (hg : w.heap[g]? = some (.cells cur 5 (0, 0)))
    (hlc : l.length ≤ cap) (hcm : cap ≤ maxLen) (hcs : cur.size = cap) (ht : cur.toList.take l.length = Lib.byteCells l) (hne : g ≠ b)
    (h1 : 1 ≤ cs.length) (hab : a.block ≠ b) (hsrc : At w a cs) (hroom : cs.length ≤ cap - l.length) (hlim : l.length + cs.length ≤ 1000000) :
    Calls Tryd.prog 37 #[.pointer (some ⟨b, q, none⟩), .slice (some a) cs.length c] w fun e w' => e = .returned (.tuple #[.int .i64 cs.length, .nilIface]) ∧
      ∃ v', Buf T R B b q v' (l ++ cs) w' ∧ v'.ownBlock = some g ∧ Fr (fun k => k = b ∨ k = g) w w' := by
  have c2 : w.cell? ⟨b, q + 2, none⟩ = some (.int .i8 lr) := hbk.c2
  have f2 : w.frozen? ⟨b, q + 2, none⟩ = false := hbk.f (q + 2)
  obtain ⟨W, hW⟩ : ∃ W, W = (w.setCell ⟨b, q + 2, none⟩ (.int .i8 0)).setCell ⟨b, q, none⟩ (.slice (some ⟨g, 0, none⟩) (l.length + cs.length) cap) := ⟨_, rfl⟩
  have hbk1 := hbk.set2 (.int .i8 0)
  have hbkW : LibA.Three W b q T R (.slice (some ⟨g, 0, none⟩) (l.length + cs.length) cap) (.int .i64 0) (.int .i8 0) := hW ▸ hbk1.set0 _
  have hgW : W.heap[g]? = some (.cells cur 5 (0, 0)) := by rw [hW, Below.heap_setCell _ _ _ _ hne, Below.heap_setCell _ _ _ _ hne]; exact hg
  have hfr : Fr (fun k => k = b ∨ k = g) w W := hW ▸ (Fr.setCell (S := fun k => k = b ∨ k = g) _ _ (.inl rfl)).trans (Fr.setCell (S := fun k => k = b ∨ k = g) _ _ (.inl rfl)) (fun _ _ h => h)
  have hfrb : Fr (· = b) w W := hW ▸ (Fr.setCell (S := (· = b)) _ _ rfl).trans (Fr.setCell (S := (· = b)) _ _ rfl) (fun _ _ h => h)
  have hsrcW : ∀ j v, (Lib.byteCells cs)[j]? = some v → W.cell? (a.add j) = some v := hsrc.fr hfrb hab
  have hcp := run_copy_row (P := Tryd.prog) W 22 22 3 5 g l.length cs.length (cap - l.length) a cs.length c cur 5 (Lib.byteCells cs) Tryd.underlying22 size5 hgW (by rw [byteCells_length]; exact (Nat.min_self _).symm) hsrcW (by rw [byteCells_length]; omega) (row_oneCell cs)
  obtain ⟨q1, q2⟩ := write_end (l := l) (cs := cs) hBb hbkW hgW hBg hcs (by omega) hcm ht hne hfr (fun _ => .inr rfl)
  rw [byteCells_length] at hcp
  have d0 : W.cell? ⟨b, q, none⟩ = some (.slice (some ⟨g, 0, none⟩) (l.length + cs.length) cap) := hbkW.c0
  have hnc : ¬ cap = l.length := by omega
  have hcm' := hcm
  unfold maxLen at hcm'
  have d1 := hbk1.c0
  have d2 := hbk1.f q
  have Q1 := Lib.hid q1
  have Q2 := Lib.hid q2
  have HW := Lib.hid hW
  clear q1 q2 hbkW hgW hfr hsrcW hW hg ht hbk hsrc
  go_enter Tryd.func37, Tryd.ntmps37
  go_wp2_with fail
  refine (Tryd.Buffer_tryGrow_room_at b q _ l.length cap cs.length _ d1 d2 hlc hcm hroom).mono ?_
  rintro e w' ⟨rfl, hw'⟩
  rw [← HW.out] at hw'
  subst hw'
  go_wp2
  go_ret2
  exact ⟨rfl, _, Q1.out, rfl, Q2.out⟩

set_option maxHeartbeats 4000000 in
set_option maxRecDepth 100000 in
/-- Write, there is no room: grow. -/
theorem write_grow (T : TypeId) (R : Nat → Option Value) (B b q cap : Nat) (lr : Int) (ao : Option Addr) (l cs : List UInt8) (a : Addr) (c : Nat) (w : World)
    (hBb : B ≤ b) (hB : B ≤ w.heap.size) (hbk : LibA.Three w b q T R (.slice ao l.length cap) (.int .i64 0) (.int .i8 lr))
    (hlc : l.length ≤ cap) (hcm : cap ≤ maxLen) (hab : a.block ≠ b) (hsrc : At w a cs) (hroom : cap - l.length < cs.length)
    (hgrow : Calls Tryd.prog 40 #[.pointer (some ⟨b, q, none⟩), .int .i64 cs.length] (w.setCell ⟨b, q + 2, none⟩ (.int .i8 0)) fun e w' => e = .returned (.int .i64 l.length) ∧ Grew T R b q cs.length l (w.setCell ⟨b, q + 2, none⟩ (.int .i8 0)) w') :
    Calls Tryd.prog 37 #[.pointer (some ⟨b, q, none⟩), .slice (some a) cs.length c] w fun e w' => e = .returned (.tuple #[.int .i64 cs.length, .nilIface]) ∧
      ∃ v', Buf T R B b q v' (l ++ cs) w' ∧ v'.ownBlock = some w.heap.size ∧ Fr (· = b) w w' := by
  have c2 : w.cell? ⟨b, q + 2, none⟩ = some (.int .i8 lr) := hbk.c2
  have f2 : w.frozen? ⟨b, q + 2, none⟩ = false := hbk.f (q + 2)
  have hbk1 := hbk.set2 (.int .i8 0)
  have hbW := hbk.lt
  obtain ⟨W, hW⟩ : ∃ W, W = w.setCell ⟨b, q + 2, none⟩ (.int .i8 0) := ⟨_, rfl⟩
  have hfr : Fr (· = b) w W := hW ▸ Fr.setCell (S := (· = b)) _ _ rfl
  have hsz : W.heap.size = w.heap.size := by rw [hW]; simp [World.setCell]
  have hsrcW : At W a cs := hsrc.fr hfr hab
  have haW : ∀ j v, (Lib.byteCells cs)[j]? = some v → (a.add j).block < w.heap.size := fun j v hj => World.block_lt_of_cell? w _ (hsrc j v hj)
  rw [← hW] at hbk1 hgrow
  have d1 := hbk1.c0
  have HW := Lib.hid hW
  have Hgrow := Lib.hid hgrow
  have Hsrc := Lib.hid hsrcW
  have HaW := Lib.hid haW
  have Hsz := Lib.hid hsz
  have hn1 : 1 ≤ cs.length := by omega
  clear hW hgrow hsrcW haW hbk hsrc hsz
  go_enter Tryd.func37, Tryd.ntmps37
  go_wp2_with fail
  rw [← HW.out]
  refine (Tryd.Buffer_tryGrow_none_at b q _ l.length cap cs.length _ d1 hlc hcm hroom).mono ?_
  rintro e w' ⟨rfl, hw'⟩
  obtain rfl : W = w' := hw'.symm
  clear hw' d1 hbk1
  go_wp2_with fail
  refine Hgrow.out.mono ?_
  rintro e W2 ⟨rfl, cap2, lr2, cells, hbk2, hg2, hcs2, hlc2, hcm2, ht2, hfr2⟩
  have hsz := Hsz.out
  rw [hsz] at hbk2 hg2
  have hne : w.heap.size ≠ b := by omega
  have hsrc2 : ∀ j v, (Lib.byteCells cs)[j]? = some v → W2.cell? (a.add j) = some v := Hsrc.out.fr hfr2 hab
  have hcp := run_copy_row (P := Tryd.prog) W2 22 22 3 5 w.heap.size l.length cs.length (cap2 - l.length) a cs.length c cells 5 (Lib.byteCells cs) Tryd.underlying22 size5 hg2 (by rw [byteCells_length]; exact (Nat.min_self _).symm) hsrc2 (by rw [byteCells_length]; omega) (row_oneCell cs)
  obtain ⟨q1, q2⟩ := write_end (l := l) (cs := cs) hBb hbk2 hg2 hB hcs2 hlc2 hcm2 ht2 hne (hfr.trans hfr2 (fun _ _ h => h)) (fun h => absurd h (by omega))
  rw [byteCells_length] at hcp
  have d0 : W2.cell? ⟨b, q, none⟩ = some (.slice (some ⟨w.heap.size, 0, none⟩) (l.length + cs.length) cap2) := hbk2.c0
  have hnc : ¬ cap2 = l.length := by omega
  have hcm' := hcm2
  unfold maxLen at hcm'
  have Q1 := Lib.hid q1
  have Q2 := Lib.hid q2
  clear q1 q2 hbk2 hg2 hsrc2 hfr2 ht2 hsz hfr c2 f2 hcs2
  go_wp2
  go_ret2
  exact ⟨rfl, _, Q1.out, rfl, Q2.out⟩

/-- Write: the bytes are appended. -/
theorem buf_write (T : TypeId) (R : Nat → Option Value) (B b q : Nat) (v : Value) (l cs : List UInt8) (a : Addr) (n c : Nat) (w : World) (h : Buf T R B b q v l w) (hB : B ≤ w.heap.size)
    (hn : cs.length = n) (h1 : 1 ≤ n) (hab : a.block ≠ b) (hsrc : At w a cs) (hlim : l.length + n ≤ 1000000) :
    Calls Tryd.prog 37 #[.pointer (some ⟨b, q, none⟩), .slice (some a) n c] w fun e w' => e = .returned (.tuple #[.int .i64 n, .nilIface]) ∧
      ∃ v', Buf T R B b q v' (l ++ cs) w' ∧ RowStep w v v' ∧ Fr (fun k => k = b ∨ v.ownBlock = some k) w w' := by
  subst hn
  obtain ⟨hBb, lr, hbk, ⟨rfl, rfl⟩ | ⟨g, cap, cur, rfl, hBg, hg, hlc, hcm, hcs, ht, hne⟩⟩ := h.cases
  · have hbk1 := hbk.set2 (.int .i8 0)
    have hgrow : Calls Tryd.prog 40 #[.pointer (some ⟨b, q, none⟩), .int .i64 cs.length] (w.setCell ⟨b, q + 2, none⟩ (.int .i8 0)) fun e w' => e = .returned (.int .i64 0) ∧ Grew T R b q cs.length [] (w.setCell ⟨b, q + 2, none⟩ (.int .i8 0)) w' := by
      by_cases h64 : cs.length ≤ 64
      · exact grow_nil_small T R b q cs.length 0 _ hbk1 h1 h64
      · exact grow_nil_big T R b q cs.length 0 _ hbk1 (by omega) (by simpa using hlim)
    refine (write_grow T R B b q 0 lr none [] cs a c w hBb hB hbk (Nat.le_refl _) (Nat.zero_le _) hab hsrc (by rw [List.length_nil]; omega) hgrow).mono ?_
    rintro e w' ⟨rfl, v', q1, q2, q3⟩
    exact ⟨rfl, v', q1, .inr ⟨_, Nat.le_refl _, q2⟩, q3.mono fun i _ h => .inl h⟩
  · by_cases hroom : cs.length ≤ cap - l.length
    · refine (write_room T R B b q g cap lr cur l cs a c w hBb hbk hBg hg hlc hcm hcs ht hne h1 hab hsrc hroom hlim).mono ?_
      rintro e w' ⟨rfl, v', q1, q2, q3⟩
      refine ⟨rfl, v', q1, .inl (by rw [q2]; rfl), q3.mono fun i _ h => ?_⟩
      rcases h with h | h
      · exact .inl h
      · exact .inr (by rw [h]; rfl)
    · have hbk1 := hbk.set2 (.int .i8 0)
      have hg1 : (w.setCell ⟨b, q + 2, none⟩ (.int .i8 0)).heap[g]? = some (.cells cur 5 (0, 0)) := by rw [Below.heap_setCell _ _ _ _ hne]; exact hg
      have hgrow : Calls Tryd.prog 40 #[.pointer (some ⟨b, q, none⟩), .int .i64 cs.length] (w.setCell ⟨b, q + 2, none⟩ (.int .i8 0)) fun e w' => e = .returned (.int .i64 l.length) ∧ Grew T R b q cs.length l (w.setCell ⟨b, q + 2, none⟩ (.int .i8 0)) w' := by
        by_cases h0 : l.length = 0
        · obtain rfl : l = [] := List.length_eq_zero_iff.1 h0
          exact grow_row0 T R b q g cap cs.length 0 cur _ hbk1 hg1 hcm hcs h1 (by simpa using hroom) (by simpa using hlim)
        · exact grow_row T R b q g cap cs.length 0 cur l _ hbk1 hg1 hlc hcm hcs ht h1 (by omega) hlim h0
      refine (write_grow T R B b q cap lr _ l cs a c w hBb hB hbk hlc hcm hab hsrc (by omega) hgrow).mono ?_
      rintro e w' ⟨rfl, v', q1, q2, q3⟩
      exact ⟨rfl, v', q1, .inr ⟨_, Nat.le_refl _, q2⟩, q3.mono fun i _ h => .inl h⟩
end Go.Proofs.YtempflfhlbojgaaDoor
