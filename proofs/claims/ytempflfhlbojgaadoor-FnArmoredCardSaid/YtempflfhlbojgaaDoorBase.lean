/-
  Words on memory: which blocks may have turned (Fr), a block known whole, a slice that holds bytes. No program in sight.
-/
import Derived.Below
import Derived.Deep.Draws
import Derived.Lib.Hide
import Derived.Lib.BufferAt
import Derived.Laws.Rows
import Derived.Laws.CopyRow
import Derived.Deep.MidRow
import Derived.Lib.BufferSrc
namespace Go.Proofs.YtempflfhlbojgaaDoor
open Go.RowKit

/-- Of the blocks of w those outside S stand in w' as they stood. -/
structure Fr (S : Nat → Prop) (w w' : World) : Prop where
  os : w'.os = w.os
  tape : w'.tape = w.tape
  output : w'.output = w.output
  size : w.heap.size ≤ w'.heap.size
  block : ∀ k, k < w.heap.size → ¬ S k → w'.heap[k]? = w.heap[k]?

section
variable {S T : Nat → Prop} {w w' u : World}
theorem Fr.refl (S : Nat → Prop) (w : World) : Fr S w w := ⟨rfl, rfl, rfl, Nat.le_refl _, fun _ _ _ => rfl⟩
theorem Fr.trans (h : Fr S w w') (k : Fr T w' u) (hT : ∀ i, i < w.heap.size → T i → S i) : Fr S w u :=
  ⟨k.os.trans h.os, k.tape.trans h.tape, k.output.trans h.output, Nat.le_trans h.size k.size,
   fun i hi hn => (k.block i (Nat.lt_of_lt_of_le hi h.size) (fun ht => hn (hT i hi ht))).trans (h.block i hi hn)⟩
theorem Fr.mono (h : Fr S w w') (hS : ∀ i, i < w.heap.size → S i → T i) : Fr T w w' :=
  ⟨h.os, h.tape, h.output, h.size, fun i hi hn => h.block i hi (fun hs => hn (hS i hi hs))⟩
theorem Fr.drewN (n : Nat) : Fr S w (w.drewN n) := ⟨rfl, rfl, rfl, Nat.le_refl _, fun _ _ _ => rfl⟩
theorem Fr.drew : Fr S w w.drew := ⟨rfl, rfl, rfl, Nat.le_refl _, fun _ _ _ => rfl⟩
theorem Fr.alloc (o : Obj) : Fr S w (w.alloc o) := ⟨rfl, rfl, rfl, by simp, fun k hk _ => Below.heap_alloc _ _ _ hk⟩
theorem Fr.setCell (a : Addr) (v : Value) (h : S a.block) : Fr S w (w.setCell a v) :=
  ⟨rfl, rfl, rfl, by simp [World.setCell], fun k _ hn => Below.heap_setCell _ _ _ _ (fun e => hn (e ▸ h))⟩
theorem Fr.setRow (g : Nat) (cs : Array Value) (h : S g) : Fr S w (w.setRow g cs) := by
  refine ⟨rfl, rfl, rfl, by simp [World.setRow], fun k _ hn => ?_⟩
  have : k ≠ g := fun e => hn (e ▸ h)
  simp only [World.setRow, Array.getElem?_modify]
  rw [if_neg (fun e => this e.symm)]
theorem Fr.grown {row : Option Nat} (h : w.grownBy w' row) (hr : ∀ k, row = some k → S k) : Fr S w w' :=
  ⟨h.os, h.tape, h.output, h.size, fun k hk hn => h.block k hk (fun e => hn (hr k e.symm))⟩
theorem Fr.of_below {B : Nat} (h : Below B w w') : Fr (fun k => B ≤ k) w w' :=
  ⟨h.os, h.tape, h.output, h.size, fun k _ hn => h.block k (by omega)⟩
theorem Fr.below {B : Nat} (h : Fr S w w') (hB : B ≤ w.heap.size) (hS : ∀ k, k < w.heap.size → S k → B ≤ k) : Below B w w' :=
  ⟨h.os, h.tape, h.output, h.size, fun k hk => h.block k (by omega) (fun hs => by have := hS k (by omega) hs; omega)⟩
theorem Fr.keep (h : Fr S w w') {k : Nat} {o : Obj} (hk : w.heap[k]? = some o) (hn : ¬ S k) : w'.heap[k]? = some o :=
  (h.block k (Array.getElem?_eq_some_iff.1 hk).1 hn).trans hk
theorem Fr.cell (h : Fr S w w') {a : Addr} {v : Value} (hk : w.cell? a = some v) (hn : ¬ S a.block) : w'.cell? a = some v :=
  (World.cell?_of_block (w := w) (h.block a.block (World.block_lt_of_cell? w a hk) hn)).trans hk
end

/-- The length of a list of cells of bytes. -/
theorem byteCells_length (l : List UInt8) : (Lib.byteCells l).length = l.length := by simp [Lib.byteCells]
theorem byteCells_append (l r : List UInt8) : Lib.byteCells (l ++ r) = Lib.byteCells l ++ Lib.byteCells r := by simp [Lib.byteCells]
theorem byteCells_get (l : List UInt8) (i : Nat) : (Lib.byteCells l)[i]? = (l[i]?).map fun b => Value.int .u8 b.toNat := by simp [Lib.byteCells]

/-- A slice at address a holds the bytes ds, told cell by cell. -/
def At (w : World) (a : Addr) (ds : List UInt8) : Prop := ∀ j v, (Lib.byteCells ds)[j]? = some v → w.cell? (a.add j) = some v

theorem At.cell {w : World} {b o : Nat} {ds : List UInt8} (h : At w ⟨b, o, none⟩ ds) {i : Nat} (hi : i < ds.length) : w.cell? ⟨b, o + i, none⟩ = some (.int .u8 ds[i].toNat) := by
  have := h i _ (by rw [byteCells_get, List.getElem?_eq_getElem hi]; rfl)
  rwa [Addr.add_mid] at this
theorem At.mk {w : World} {b o : Nat} {ds : List UInt8} (h : ∀ i (hi : i < ds.length), w.cell? ⟨b, o + i, none⟩ = some (.int .u8 ds[i].toNat)) : At w ⟨b, o, none⟩ ds := by
  intro j v hj
  rw [byteCells_get] at hj
  by_cases hl : j < ds.length
  · rw [List.getElem?_eq_getElem hl] at hj
    rw [Addr.add_mid, h j hl]
    exact hj
  · rw [List.getElem?_eq_none (by omega)] at hj; cases hj
theorem At.nil (w : World) (a : Addr) : At w a [] := by intro j v hj; simp [Lib.byteCells] at hj
theorem At.fr {S : Nat → Prop} {w w' : World} {a : Addr} {ds : List UInt8} (h : At w a ds) (hf : Fr S w w') (hn : ¬ S a.block) : At w' a ds :=
  fun j v hj => hf.cell (h j v hj) (by rw [Lib.block_add]; exact hn)

/-- A bytes.Buffer at offset o of block b, only written since it was empty (its 'off' is 0): its slice v owns the bytes l. -/
def Buf (T : TypeId) (R : Nat → Option Value) (B b o : Nat) (v : Value) (l : List UInt8) (w : World) : Prop :=
  B ≤ b ∧ (∃ lr, LibA.Three w b o T R v (.int .i64 0) (.int .i8 lr)) ∧ w.ownsRow B 5 1 v l.length (Lib.byteCells l) ∧ v.ownBlock ≠ some b

theorem Buf.is {T : TypeId} {R : Nat → Option Value} {B b o : Nat} {v : Value} {l : List UInt8} {w : World} (h : Buf T R B b o v l w) : LibA.IsBuffer T R 5 B b o (Lib.byteCells l) w := by
  obtain ⟨h1, ⟨lr, h2⟩, h3, h4⟩ := h
  exact ⟨h1, v, lr, h2, by rw [byteCells_length]; exact h3, h4⟩

/-- Where the new row lies: where the old one lay, or in a new block. -/
def RowStep (w : World) (v v' : Value) : Prop := v'.ownBlock = v.ownBlock ∨ ∃ g, w.heap.size ≤ g ∧ v'.ownBlock = some g

theorem row_oneCell (l : List UInt8) : ∀ v ∈ Lib.byteCells l, v.oneCell' = true := Lib.byteCells_one l
end Go.Proofs.YtempflfhlbojgaaDoor
