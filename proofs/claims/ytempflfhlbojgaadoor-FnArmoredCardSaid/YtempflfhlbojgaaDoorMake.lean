/-
  The walks of the makers: b64, NewEncoder, NewWrappedBase64Encoder, NewWriter; and the words on base64's encoder (Pend) and on the file that is written (Chain).
-/
import Derived.Test.YtempflfhlbojgaaDoorNew
namespace Go.Proofs.YtempflfhlbojgaaDoor
open Go.RowKit

theorem Fr.none {S : Nat → Prop} {w w' : World} (h : Fr (fun _ => False) w w') : Fr S w w' := h.mono (fun _ _ h => h.elim)
/-- A frame on blocks that all are new says nothing on the old ones. -/
theorem Fr.after {T : Nat → Prop} {w w' u : World} (h : Fr (fun _ => False) w w') (k : Fr T w' u) (hT : ∀ i, i < w.heap.size → ¬ T i) : Fr (fun _ => False) w u := h.trans k (fun i hi ht => hT i hi ht)

theorem Enc.of_cells {eb : Nat} {w : World} (h : w.heap[eb]? = some (.cells (encCells 64) 103 (0, 0))) : Enc eb w :=
  ⟨fun i hi => by rw [cell_of_row _ _ _ _ _ _ h, encCells_sig _ hi], by rw [cell_of_row _ _ _ _ _ _ h, encCells_pad]⟩

/-- The writer that the encoder writes to: the method value writeWrapped. -/
def wfun (bw : Nat) : Value := .iface 86 (.func (.func 33) #[.pointer (some ⟨bw, 0, none⟩)] #[])

/-- base64's encoder at block cb: what waits in it. -/
def PendC (eb bw : Nat) (pend : List UInt8) (cs : Array Value) : Prop :=
  cs.size = 1031 ∧ cs[0]? = some .nilIface ∧ cs[1]? = some (.pointer (some ⟨eb, 0, none⟩)) ∧ cs[2]? = some (wfun bw) ∧
    (∀ i (h : i < pend.length), cs[3 + i]? = some (.int .u8 pend[i].toNat)) ∧ cs[6]? = some (.int .i64 pend.length) ∧ pend.length ≤ 3
def Pend (cb eb bw : Nat) (pend : List UInt8) (w : World) : Prop := ∃ cs, w.heap[cb]? = some (.cells cs 96 (0, 0)) ∧ PendC eb bw pend cs

theorem Pend.fr {S : Nat → Prop} {cb eb bw : Nat} {pend : List UInt8} {w w' : World} (h : Pend cb eb bw pend w) (hf : Fr S w w') (hn : ¬ S cb) : Pend cb eb bw pend w' := by
  obtain ⟨cs, hb, hc⟩ := h
  exact ⟨cs, hf.keep hb hn, hc⟩

theorem zeroCells96_size : Tryd.zeroCells96.size = 1031 := by kernel_rfl
theorem zeroCells96_0 : Tryd.zeroCells96[0]? = some .nilIface := by kernel_rfl
theorem zeroCells96_6 : Tryd.zeroCells96[6]? = some (.int .i64 0) := by kernel_rfl

set_option maxHeartbeats 4000000 in
set_option maxRecDepth 100000 in
theorem b64_at (w : World) : Calls Tryd.prog 30 #[] w fun e w' => e = .returned (.pointer (some ⟨w.heap.size, 0, none⟩)) ∧ w'.heap[w.heap.size]? = some (.cells (encCells 64) 103 (0, 0)) ∧ Fr (fun _ => False) w w' := by
  go_enter Tryd.func30, Tryd.ntmps30
  go_wp2_with fail
  refine (newEncoding_at _ _ rfl).mono ?_
  rintro e w' ⟨rfl, h, f⟩
  have Hh := Lib.hid h
  have Hf := Lib.hid f
  clear h f
  go_wp2_with fail
  go_ret
  exact ⟨rfl, Hh.out, Hf.out⟩

set_option maxHeartbeats 4000000 in
set_option maxRecDepth 100000 in
theorem newEncoder_at (eb bw : Nat) (w : World) : Calls Tryd.prog 32 #[.pointer (some ⟨eb, 0, none⟩), .iface 86 (.func (.func 33) #[.pointer (some ⟨bw, 0, none⟩)] #[])] w fun e w' => e = .returned (.iface 92 (.pointer (some ⟨w.heap.size, 0, none⟩))) ∧ Pend w.heap.size eb bw [] w' ∧ w'.heap.size = w.heap.size + 1 ∧ Fr (fun _ => False) w w' := by
  go_enter Tryd.func32, Tryd.ntmps32
  go_wp2_with fail
  go_ret
  refine ⟨rfl, ⟨_, heap_alloc_new w _, ?_, ?_, ?_, ?_, ?_, ?_, ?_⟩, by simp, Fr.alloc _⟩
  · simp
  · rw [Array.getElem?_setIfInBounds_ne (by omega), Array.getElem?_setIfInBounds_ne (by omega), zeroCells96_0]
  · rw [Array.getElem?_setIfInBounds_ne (by omega), Array.getElem?_setIfInBounds_self_of_lt (by rw [zeroCells96_size]; omega)]
  · rw [Array.getElem?_setIfInBounds_self_of_lt (by rw [Array.size_setIfInBounds, zeroCells96_size]; omega)]; rfl
  · intro i h; simp at h
  · rw [Array.getElem?_setIfInBounds_ne (by omega), Array.getElem?_setIfInBounds_ne (by omega), zeroCells96_6]; rfl
  · simp

set_option maxHeartbeats 4000000 in
set_option maxRecDepth 100000 in
theorem newWrapped_at (eb bo : Nat) (w : World) : Calls Tryd.prog 29 #[.pointer (some ⟨eb, 0, none⟩), .iface 61 (.pointer (some ⟨bo, 0, none⟩))] w fun e w' => e = .returned (.pointer (some ⟨w.heap.size, 0, none⟩)) ∧
    w'.heap[w.heap.size]? = some (.cells #[.iface 92 (.pointer (some ⟨w.heap.size + 1, 0, none⟩)), .iface 61 (.pointer (some ⟨bo, 0, none⟩)), .int .i64 0, .slice none 0 0, .int .i64 0, .int .i8 0] 84 (0, 0)) ∧
    Pend (w.heap.size + 1) eb w.heap.size [] w' ∧ w'.heap.size = w.heap.size + 2 ∧ Fr (fun _ => False) w w' := by
  go_enter Tryd.func29, Tryd.ntmps29
  go_wp2_with fail
  refine (newEncoder_at eb w.heap.size _).mono ?_
  rintro e w1 ⟨rfl, h1, h2, h3⟩
  have hb := h3.keep (heap_alloc_new w _) (fun h => h)
  have hsz : (w.alloc (.cells #[Value.nilIface, Value.iface 61 (Value.pointer (some { block := bo, off := 0 })), Value.int IntKind.i64 0, Value.slice none 0 0, Value.int IntKind.i64 0, Value.int IntKind.i8 0] 84)).heap.size = w.heap.size + 1 := by simp
  rw [hsz] at h1 h2
  have H1 := Lib.hid h1
  have H2 := Lib.hid h2
  have Hb := Lib.hid hb
  have H3 := Lib.hid h3
  clear h1 h2 hb h3 hsz
  have c0 : w1.cell? ⟨w.heap.size, 0, none⟩ = some .nilIface := by rw [cell_of_row _ _ _ _ _ _ Hb.out]; rfl
  have f0 : w1.frozen? ⟨w.heap.size, 0, none⟩ = false := frozen_of_row _ _ _ _ _ Hb.out
  go_wp2_with fail
  go_ret
  refine ⟨rfl, ?_, ?_, ?_, ?_⟩
  · have := Lib.heap_setCell_same (i := 0) Hb.out (.iface 92 (.pointer (some ⟨w.heap.size + 1, 0, none⟩)))
    simpa using this
  · refine H1.out.fr (Fr.setCell (S := fun k => k = w.heap.size) _ _ rfl) (by omega)
  · simpa [World.setCell] using H2.out
  · exact ((Fr.alloc (S := fun _ => False) _).trans H3.out (fun _ _ h => h)).after (Fr.setCell (S := fun k => k = w.heap.size) _ _ rfl) (fun i hi h => by omega)

/-- An armoredWriter at block ab. -/
def ArmW (ab bw bo : Nat) (started closed : Bool) (w : World) : Prop :=
  w.heap[ab]? = some (.cells #[.bool started, .bool closed, .pointer (some ⟨bw, 0, none⟩), .iface 61 (.pointer (some ⟨bo, 0, none⟩))] 80 (0, 0))

set_option maxHeartbeats 4000000 in
set_option maxRecDepth 100000 in
theorem newWriter_at (bo : Nat) (w : World) : Calls Tryd.prog 23 #[.iface 61 (.pointer (some ⟨bo, 0, none⟩))] w fun e w' => ∃ eb bw cb ab, e = .returned (.iface 74 (.pointer (some ⟨ab, 0, none⟩))) ∧ w.heap.size ≤ eb ∧ eb < bw ∧ bw < cb ∧ cb < ab ∧ ab < w'.heap.size ∧
    Enc eb w' ∧ w'.heap[bw]? = some (.cells #[.iface 92 (.pointer (some ⟨cb, 0, none⟩)), .iface 61 (.pointer (some ⟨bo, 0, none⟩)), .int .i64 0, .slice none 0 0, .int .i64 0, .int .i8 0] 84 (0, 0)) ∧
    Pend cb eb bw [] w' ∧ ArmW ab bw bo false false w' ∧ Fr (fun _ => False) w w' := by
  go_enter Tryd.func23, Tryd.ntmps23
  go_wp2_with fail
  refine (b64_at _).mono ?_
  rintro e w1 ⟨rfl, h1, h2⟩
  have hlt : w.heap.size < w1.heap.size := (Array.getElem?_eq_some_iff.1 h1).1
  have H1 := Lib.hid h1
  have H2 := Lib.hid h2
  clear h1 h2
  go_wp2_with fail
  refine (newWrapped_at w.heap.size bo _).mono ?_
  rintro e w2 ⟨rfl, h3, h4, h5, h6⟩
  have H3 := Lib.hid h3
  have H4 := Lib.hid h4
  have H5 := Lib.hid h5
  have H6 := Lib.hid h6
  clear h3 h4 h5 h6
  go_wp2_with fail
  go_ret
  have hk : Fr (fun _ => False) w2 (w2.alloc _) := Fr.alloc (.cells #[.bool false, .bool false, .pointer (some ⟨w1.heap.size, 0, none⟩), .iface 61 (.pointer (some ⟨bo, 0, none⟩))] 80 (0, 0))
  have h5 := H5.out
  refine ⟨w.heap.size, w1.heap.size, w1.heap.size + 1, w2.heap.size, rfl, Nat.le_refl _, hlt, by omega, by omega, by simp, ?_, ?_, ?_, ?_, ?_⟩
  · exact Enc.of_cells (hk.keep (H6.out.keep H1.out (fun h => h)) (fun h => h))
  · exact hk.keep H3.out (fun h => h)
  · exact H4.out.fr hk (fun h => h)
  · exact heap_alloc_new w2 _
  · exact (H2.out.trans H6.out (fun _ _ h => h)).trans hk (fun _ _ h => h)
end Go.Proofs.YtempflfhlbojgaaDoor
