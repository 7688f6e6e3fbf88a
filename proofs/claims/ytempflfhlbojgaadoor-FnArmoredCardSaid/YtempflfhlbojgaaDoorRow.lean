/-
  FnArmored returns true for every input, and leaves its arguments as they were, in every world in which the three listed error variables read as the program's text lays them.
  Conditions: none on the arguments; the listed variables as the row says (the card ties them to the program's text).
-/
import Derived.Test.YtempflfhlbojgaaDoorCards
import Derived.Test.YtempflfhlbojgaaDoorTie
import Derived.Test.YtempflfhlbojgaaDoorLaw
import Derived.ProofKit
import Derived.Deep.DeepHandedRow
import Derived.Stop.LaidErr
namespace Go.Proofs.YtempflfhlbojgaaDoor
open Go.ChangeShapes Go.WideShapes Go.ChangeAt Go.RowKit

theorem own : ownKnob Tryd.prog.godebug = none := by kernel_rfl
theorem laidOut : laidOutB Tryd.prog = true := by kernel_rfl
theorem cells5 : Tryd.prog.cellsOf 5 = 1 := by kernel_rfl
theorem cells147 : Tryd.prog.cellsOf 147 = 1 := by kernel_rfl
theorem cells9 : Tryd.prog.cellsOf 9 = 1 := by kernel_rfl
theorem gEof : Tryd.prog.globalNamed "io.EOF" = some 0 := by kernel_rfl
theorem gEofType : (Tryd.prog.globals[0]?).map (·.type) = some 44 := by kernel_rfl
theorem star : "*" ++ "errors.errorString" = "*errors.errorString" := by decide
theorem row108 (u : TypeId) (h : Tryd.prog.typeName? 3 u = some "*errors.errorString") : u = 108 :=
  typeName_ptr_named (nm := "errors.errorString") (by rw [star]; kernel_rfl) (by kernel_rfl) (by decide) u (by rw [star]; exact h)

/-- What the row's list gives: io.EOF's cell. -/
theorem eof_of_laid {W : World} (h : laidMetH Tryd.prog Rows.fnArmoredRow.laid W) : ∃ pE, W.cell? ⟨0, 0, none⟩ = some (.iface 108 (.pointer (some pE))) := by
  have h' : laidMet Tryd.prog Rows.fnArmoredRow.laid W := h
  obtain ⟨a, s, hv, _⟩ := laid_sentinel h'.tail gEof gEofType Tryd.underlying44 row108 Tryd.underlying108 Tryd.underlying147 rfl rfl Tryd.underlying9 cells147 cells9
  exact ⟨a, by simpa using World.var?_cell gEof hv 0⟩

theorem byte_back {z : Int} (h0 : 0 ≤ z) (h1 : z ≤ 255) : ((z.toNat.toUInt8.toNat : Nat) : Int) = z := by
  have e : z.toNat.toUInt8.toNat = z.toNat := by
    show z.toNat % 256 = z.toNat
    omega
  rw [e]
  omega

/-- An argument of type []byte, opened, nil or not. -/
theorem opened {H : Type} {enc : TypeId × Value → H} {W : World} {a0 : Option Addr} {len cap : Nat} {d0 : DataW H} {p : List MemPlace}
    (h0 : DataW.Trod enc Tryd.prog W 0 (fun _ => true) true 22 (.slice a0 len cap) d0 p) :
    ∃ (pb po : Nat) (l : List UInt8), l.length = len ∧ len ≤ cap ∧ cap ≤ 9223372036854775807 ∧ (0 < l.length → a0 = some ⟨pb, po, none⟩ ∧ At W ⟨pb, po, none⟩ l) := by
  obtain ⟨fuel, hf⟩ := h0
  rcases open_ints Tryd.underlying22 Tryd.underlying5 cells5 hf with ⟨hcs, hx⟩ | ⟨a, len', cap', zs, hcs, _, hl, hm, hz, hx, hcell, hwz⟩
  · simp [Value.cells] at hcs
    obtain ⟨rfl, rfl, rfl⟩ := hcs
    exact ⟨0, 0, [], rfl, Nat.le_refl _, by omega, fun h => by cases h⟩
  · simp [Value.cells] at hcs
    obtain ⟨rfl, rfl, rfl⟩ := hcs
    simp only [if_true] at hz
    obtain ⟨b, off, spot⟩ := a
    refine ⟨b, off, (zs.take len).map fun z => z.toNat.toUInt8, by simp; omega, hl, by unfold maxLen at hm; omega, fun hpos => ?_⟩
    have hpos' : 0 < zs.length := by simp at hpos; omega
    have hspot : spot = none := by simpa [Addr.add] using World.cell?_spot (hcell 0 hpos')
    subst hspot
    refine ⟨rfl, At.mk fun i hi => ?_⟩
    have hi' : i < zs.length := by simp at hi; omega
    have e := hcell i hi'
    rw [add_plain] at e
    rw [e]
    have hmem : zs[i] ∈ zs := List.getElem_mem hi'
    have h5 := hwz _ hmem
    have e1 : IntKind.u8.min = 0 := rfl
    have e2 : IntKind.u8.max = 255 := rfl
    obtain ⟨b0, b1⟩ : 0 ≤ zs[i] ∧ zs[i] ≤ 255 := by simpa [Lit.wf, e1, e2] using h5
    simp only [List.getElem_map, List.getElem_take, byte_back b0 b1, List.getD, List.getElem?_eq_getElem hi', Option.getD_some]

/-- THE LAW, for every two arguments. -/
theorem law_any (a : Option Addr) (pb po n c : Nat) (p : Int) (l : List UInt8) (pE : Addr) (w : World) (hE : w.cell? ⟨0, 0, none⟩ = some (.iface 108 (.pointer (some pE)))) (hl : l.length = n) (ha : 0 < l.length → a = some ⟨pb, po, none⟩ ∧ At w ⟨pb, po, none⟩ l) (hc : n ≤ c) (hc2 : c ≤ 9223372036854775807) :
    Calls Tryd.prog 4 #[.slice a n c, .int .i64 p] w fun e w' => e = .returned (.bool true) ∧ Fr (fun _ => False) w w' := by
  by_cases h1 : 2147483647 < n
  · exact law_long a n c p w h1
  · by_cases h2 : 5000 < n ∨ p < 0 ∨ 10000 < p
    · exact law_out a n c p pE w hE (by omega) h2
    · subst hl
      obtain ⟨q, rfl⟩ : ∃ q : Nat, p = (q : Int) := ⟨p.toNat, by omega⟩
      exact law_in a pb po c q l pE w hE ha (by omega) hc hc2 (by omega)

set_option maxRecDepth 100000 in
/-- What the walk gives, for every argument and every world that meets the row's list. -/
theorem contract (H : Type) (enc : TypeId × Value → H) (W : World) (base : Nat) (args : Array Value) (ds gs : List (DataW H)) (before : List MemPlace)
    (hval0 : ∀ (j : Nat) t v, Tryd.f4.params[j]? = some t → args[j]? = some v → Value.okWide Tryd.prog W .any base t v)
    (hW : DataW.Whole enc Tryd.prog Tryd.f4.params.toList Rows.fnArmoredSpec.vars false W args.toList ds gs before) (hL : laidMetH Tryd.prog Rows.fnArmoredRow.laid W) :
    Calls Tryd.prog 4 args W fun e W' => ∃ v, e = .returned v ∧ Rows.fnArmoredSpec.post enc Tryd.prog Tryd.f4 false true false false W args v W' := by
  have hval : ∀ (j : Nat) t v, Tryd.f4.params[j]? = some t → args[j]? = some v → Value.okWide Tryd.prog W .any base t v := hval0
  have hW' := hW
  obtain ⟨p, q, hA0, hV, rfl, _, _⟩ := hW
  have hA : DataW.TrodAll enc Tryd.prog W 0 (fun _ => true) true Tryd.f4.params.toList args.toList ds p := hA0
  rw [Tryd.params4] at hA hval
  obtain ⟨v0, v1, d0, d1, p0, p1, rfl, rfl, rfl, h0, h1⟩ := trodAll_two hA
  obtain ⟨rfl, rfl⟩ := trodVars_none hV
  obtain ⟨a0, len0, cap0, rfl⟩ := okWide_slice Tryd.underlying22 (hval 0 22 v0 rfl rfl)
  obtain ⟨n, rfl, rfl, rfl, hwn⟩ := open_int Tryd.underlying3 (hval 1 3 v1 rfl rfl) h1
  clear hA0 hval0
  simp only [List.append_nil] at hW'
  have hlt : ∀ x ∈ p0, x.block < W.heap.size := fun x hx => by simpa using hW'.lt x (by simpa using hx)
  obtain ⟨pE, hE⟩ := eof_of_laid hL
  obtain ⟨pb, po, l, hl, hc, hc2, ha⟩ := opened h0
  refine (law_any a0 pb po len0 cap0 n l pE W hE hl ha hc hc2).mono fun e W' ⟨he, hf⟩ => ?_
  subst he
  have hn : Below W.heap.size W W' := hf.below (Nat.le_refl _) (fun _ _ h => h.elim)
  have harg0 : DataW.Trod enc Tryd.prog W' 0 (fun b => decide (b < W.heap.size)) true 22 (.slice a0 len0 cap0) d0 p0 :=
    Below.trod laidOut (by kernel_rfl) (of_decide_eq_true (by kernel_rfl)) h0 hn hlt
  refine ⟨_, rfl, _, _, _, [], _, [], hW', ?_, trodAll_mk2 harg0 (shut_int Tryd.underlying3 hwn), rfl, hn.frame _, fun h => by cases h⟩
  exact trodAll_mk1 (shut_bool Tryd.underlying4 _)

abbrev eofS : ByteArray := { data := #[69, 79, 70] }
abbrev shortS : ByteArray := { data := #[115, 104, 111, 114, 116, 32, 119, 114, 105, 116, 101] }
abbrev largeS : ByteArray := { data := #[98, 121, 116, 101, 115, 46, 66, 117, 102, 102, 101, 114, 58, 32, 116, 111, 111, 32, 108, 97, 114, 103, 101] }

/-- How many blocks lie before the witness's own. -/
noncomputable def low : Nat := (World.holding Tryd.prog default ⟨#[], #[], []⟩).heap.size

/-- A world for the witness: the settled one, the three listed variables laid. -/
noncomputable def laidWorld (os : Os) : World :=
  let w0 := World.holding Tryd.prog os ⟨#[.cells #[.string eofS] 147, .cells #[.string shortS] 147, .cells #[.string largeS] 147], #[], []⟩
  { w0 with heap := ((w0.heap.modify 0 fun
      | .cells _ t frozen => .cells #[.iface 108 (.pointer (some ⟨low, 0, none⟩))] t frozen
      | o => o).modify 1 fun
      | .cells _ t frozen => .cells #[.iface 108 (.pointer (some ⟨low + 1, 0, none⟩))] t frozen
      | o => o).modify 2 fun
      | .cells _ t frozen => .cells #[.iface 108 (.pointer (some ⟨low + 2, 0, none⟩))] t frozen
      | o => o }

theorem laid_met (os : Os) : laidMet Tryd.prog Rows.fnArmoredRow.laid ((laidWorld os).forCall (fun _ _ => 0) ⟨#[], #[.slice none 0 0, .int .i64 0], []⟩).memory :=
  laidMet_of_run' 8 (by kernel_rfl) (by kernel_rfl)
theorem reads (os : Os) {H : Type} (enc : TypeId × Value → H) : ∃ places, DataW.whole enc Tryd.prog ((laidWorld os).forCall (fun _ _ => 0) ⟨#[], #[.slice none 0 0, .int .i64 0], []⟩).memory Tryd.f4.params.toList Rows.fnArmoredSpec.vars false #[Value.slice none 0 0, Value.int .i64 0].toList 8 = some ([.nil, .lit (.int .i64 0)], [], places) :=
  ⟨[], by kernel_rfl⟩

set_option maxRecDepth 100000 in
theorem lifted (os : Os) (started : os.Started) (H : Type) (enc : TypeId × Value → H) (F : Stop.Interp) :
    ReturnsInHanded {} Tryd.checked os 4 .any ((OpenSpec.ofChange Rows.fnArmoredSpec).preRow enc Tryd.prog Tryd.f4 Rows.fnArmoredRow.domain false Rows.fnArmoredRow.laid) (((OpenSpec.ofChange Rows.fnArmoredSpec).at F).post enc Tryd.prog Tryd.f4 false true false false) := by
  obtain ⟨places, hx⟩ := reads os enc
  refine returnsInHanded_of_row (C := Tryd.checked) (s := OpenSpec.ofChange Rows.fnArmoredSpec) own started (by kernel_rfl) Tryd.func4
    (witness_row_at (enc := enc) (C := Tryd.checked) false (laidWorld os) #[.slice none 0 0, .int .i64 0] rfl (by kernel_rfl) (by kernel_rfl) (by kernel_rfl)
      (OpenSpec.preRow_of_cond 8 hx (by kernel_rfl) (fun k hk => by cases hk) (by kernel_rfl) (laid_met os))) ?_
  intro W base args ds gs before hval hW _ _ _ hL _ _
  exact contract H enc W base args ds gs before hval hW hL

theorem said : Rows.FnArmoredSaid :=
  OpenClaim.holds_of_cond 4 Tryd.f4 rfl rfl rfl rfl rfl rfl rfl ⟨rfl, rfl, rfl, rfl, rfl⟩ rfl rfl rfl rfl rfl (by kernel_rfl) Tryd.func4 (by kernel_rfl)
    (of_decide_eq_true (by kernel_rfl)) (by unfold Func.isWrapper; first | (rw [if_pos (by decide +kernel)]; kernel_rfl) | (rw [if_neg (by decide +kernel)]; exact ⟨rfl, rfl⟩))
    (fun os started H enc _ F => by rw [OpenClaim.pre_eq_preRow]; exact lifted os started H enc F)

/-- No parameter wants a stand-in; the program's own looks are on as the card says. -/
theorem plain (f : FuncId) (fn : Func) (hf : Tryd.pinned.checked.prog.funcNamed "given.example/pub-coffermaker/laws.FnArmored" = some f) (hfn : Tryd.pinned.checked.prog.funcs[f]? = some fn) :
    true = Tryd.pinned.checked.prog.looks [] ∧ ∀ (j : Nat) t, fn.params[j]? = some t → Tryd.pinned.checked.prog.wantsStandIn t = false := by
  obtain rfl : f = 4 := Option.some.inj ((show Tryd.prog.funcNamed "given.example/pub-coffermaker/laws.FnArmored" = some 4 by kernel_rfl).symm.trans hf) |>.symm
  obtain rfl : fn = Tryd.f4 := (Option.some.inj (Tryd.func4.symm.trans hfn)).symm
  refine ⟨by kernel_rfl, fun j t ht => ?_⟩
  rw [Tryd.params4] at ht
  have hm : t = 22 ∨ t = 3 := by simpa using Array.mem_of_getElem? ht
  rcases hm with rfl | rfl
  · exact (show Tryd.prog.wantsStandIn 22 = false by kernel_rfl)
  · exact (show Tryd.prog.wantsStandIn 3 = false by kernel_rfl)

/-- THE CARD. -/
theorem fnArmored_card_holds : Rows.FnArmoredCardSaid :=
  Claim7.holds_tied_plain_at .later [] _ _ _ _ said (fun _ h => by cases h) (by kernel_rfl) (fun _ h => by cases h) fnArmored_row_tie rfl ⟨rfl, rfl⟩ (by kernel_rfl) rfl plain (by kernel_rfl)
#print axioms fnArmored_card_holds
end Go.Proofs.YtempflfhlbojgaaDoor
