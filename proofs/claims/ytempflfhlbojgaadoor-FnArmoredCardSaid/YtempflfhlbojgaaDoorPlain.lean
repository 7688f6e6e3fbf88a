/-
  Plain words of the claim: base 64 as lists of bytes (with and without signs of equality), lines of 64 signs, the text of an armored file. No program in sight.
-/
import Derived.Below
namespace Go.Proofs.YtempflfhlbojgaaDoor
open Go.RowKit

/-- The 64 signs. -/
def signs : List UInt8 := [65, 66, 67, 68, 69, 70, 71, 72, 73, 74, 75, 76, 77, 78, 79, 80, 81, 82, 83, 84, 85, 86, 87, 88, 89, 90, 97, 98, 99, 100, 101, 102, 103, 104, 105, 106, 107, 108, 109, 110, 111, 112, 113, 114, 115, 116, 117, 118, 119, 120, 121, 122, 48, 49, 50, 51, 52, 53, 54, 55, 56, 57, 43, 47]
theorem signs_length : signs.length = 64 := by decide
def sig (d : Nat) : UInt8 := signs.getD d 0

/-- Three bytes as one number. -/
def num3 (a b c : UInt8) : Nat := a.toNat * 65536 + b.toNat * 256 + c.toNat

/-- Base 64 with signs of equality. -/
def b64 : List UInt8 → List UInt8
  | a :: b :: c :: r => sig (num3 a b c / 262144 % 64) :: sig (num3 a b c / 4096 % 64) :: sig (num3 a b c / 64 % 64) :: sig (num3 a b c % 64) :: b64 r
  | [a, b] => [sig (num3 a b 0 / 262144 % 64), sig (num3 a b 0 / 4096 % 64), sig (num3 a b 0 / 64 % 64), 61]
  | [a] => [sig (num3 a 0 0 / 262144 % 64), sig (num3 a 0 0 / 4096 % 64), 61, 61]
  | [] => []

/-- Base 64 without signs of equality. -/
def p64 : List UInt8 → List UInt8
  | a :: b :: c :: r => sig (num3 a b c / 262144 % 64) :: sig (num3 a b c / 4096 % 64) :: sig (num3 a b c / 64 % 64) :: sig (num3 a b c % 64) :: p64 r
  | [a, b] => [sig (num3 a b 0 / 262144 % 64), sig (num3 a b 0 / 4096 % 64), sig (num3 a b 0 / 64 % 64)]
  | [a] => [sig (num3 a 0 0 / 262144 % 64), sig (num3 a 0 0 / 4096 % 64)]
  | [] => []

/-- Signs of equality up to a length that four divides. -/
def padOf (n : Nat) : Nat := (4 - n % 4) % 4

theorem b64_p64 : ∀ l : List UInt8, b64 l = p64 l ++ List.replicate (padOf (p64 l).length) 61
  | a :: b :: c :: r => by
    have ih := b64_p64 r
    simp only [b64, p64, ih, List.length_cons, List.cons_append]
    have : padOf ((p64 r).length + 1 + 1 + 1 + 1) = padOf (p64 r).length := by unfold padOf; omega
    rw [this]
  | [a, b] => by simp [b64, p64, padOf]
  | [a] => by simp [b64, p64, padOf, List.replicate]
  | [] => by simp [b64, p64, padOf]

theorem b64_length : ∀ l : List UInt8, (b64 l).length = (l.length + 2) / 3 * 4
  | a :: b :: c :: r => by
    have ih := b64_length r
    simp only [b64, List.length_cons, ih]
    omega
  | [a, b] => by simp [b64]
  | [a] => by simp [b64]
  | [] => by simp [b64]

theorem p64_length_le : ∀ l : List UInt8, (p64 l).length ≤ (l.length + 2) / 3 * 4
  | a :: b :: c :: r => by
    have ih := p64_length_le r
    simp only [p64, List.length_cons]
    omega
  | [a, b] => by simp [p64]
  | [a] => by simp [p64]
  | [] => by simp [p64]

/-- A head of whole triples stands for itself. -/
theorem b64_append : ∀ (l r : List UInt8), l.length % 3 = 0 → b64 (l ++ r) = b64 l ++ b64 r
  | a :: b :: c :: l, r, h => by
    have ih := b64_append l r (by simp only [List.length_cons] at h; omega)
    simp only [List.cons_append, b64, ih]
  | [a, b], r, h => by simp at h
  | [a], r, h => by simp at h
  | [], r, h => by simp [b64]

theorem p64_append : ∀ (l r : List UInt8), l.length % 3 = 0 → p64 (l ++ r) = p64 l ++ p64 r
  | a :: b :: c :: l, r, h => by
    have ih := p64_append l r (by simp only [List.length_cons] at h; omega)
    simp only [List.cons_append, p64, ih]
  | [a, b], r, h => by simp at h
  | [a], r, h => by simp at h
  | [], r, h => by simp [p64]

/-- A line's end behind each 64th sign; k: how many signs stand already. -/
def wrap : Nat → List UInt8 → List UInt8
  | _, [] => []
  | k, c :: r => c :: (if (k + 1) % 64 = 0 then 10 :: wrap (k + 1) r else wrap (k + 1) r)

theorem wrap_append : ∀ (l : List UInt8) (k : Nat) (r : List UInt8), wrap k (l ++ r) = wrap k l ++ wrap (k + l.length) r
  | [], k, r => by simp [wrap]
  | c :: l, k, r => by
    have ih := wrap_append l (k + 1) r
    simp only [List.cons_append, wrap, ih, List.length_cons]
    rw [show k + 1 + l.length = k + (l.length + 1) from by omega]
    split <;> simp

theorem wrap_mod : ∀ (l : List UInt8) (k j : Nat), k % 64 = j % 64 → wrap k l = wrap j l
  | [], k, j, h => by simp [wrap]
  | c :: l, k, j, h => by
    have ih := wrap_mod l (k + 1) (j + 1) (by omega)
    simp only [wrap, ih]
    rw [show (k + 1) % 64 = (j + 1) % 64 from by omega]

/-- No line's end within a line. -/
theorem wrap_short : ∀ (l : List UInt8) (k : Nat), k % 64 + l.length < 64 → wrap k l = l
  | [], k, h => by simp [wrap]
  | c :: l, k, h => by
    simp only [List.length_cons] at h
    have ih := wrap_short l (k + 1) (by omega)
    simp only [wrap, ih]
    rw [if_neg (by omega)]

/-- A line filled to its end. -/
theorem wrap_fill : ∀ (l : List UInt8) (k : Nat), l ≠ [] → k % 64 + l.length = 64 → wrap k l = l ++ [10]
  | [], k, h, _ => absurd rfl h
  | [c], k, _, h => by
    simp only [List.length_cons, List.length_nil] at h
    simp only [wrap]
    rw [if_pos (by omega)]
    rfl
  | c :: d :: l, k, _, h => by
    simp only [List.length_cons] at h
    have ih := wrap_fill (d :: l) (k + 1) (by simp) (by simp only [List.length_cons]; omega)
    rw [wrap, ih, if_neg (by omega)]
    rfl

def headLine : List UInt8 := [45, 45, 45, 45, 45, 66, 69, 71, 73, 78, 32, 65, 71, 69, 32, 69, 78, 67, 82, 89, 80, 84, 69, 68, 32, 70, 73, 76, 69, 45, 45, 45, 45, 45, 10]
def footLine : List UInt8 := [45, 45, 45, 45, 45, 69, 78, 68, 32, 65, 71, 69, 32, 69, 78, 67, 82, 89, 80, 84, 69, 68, 32, 70, 73, 76, 69, 45, 45, 45, 45, 45]

/-- A file as text: what the reference writes line by line. -/
def linesOf : Nat → List UInt8 → List UInt8
  | 0, s => if s = [] then [] else s ++ [10]
  | f + 1, s => if 64 < s.length then s.take 64 ++ [10] ++ linesOf f (s.drop 64) else if s = [] then [] else s ++ [10]

theorem linesOf_wrap : ∀ (f : Nat) (s : List UInt8), s.length ≤ 64 * (f + 1) → linesOf f s = wrap 0 s ++ (if s.length % 64 = 0 then [] else [10])
  | 0, s, h => by
    simp only [linesOf]
    by_cases h0 : s = []
    · subst h0; simp [wrap]
    · have hp : 0 < s.length := List.length_pos_iff.2 h0
      rw [if_neg h0]
      by_cases h1 : s.length = 64
      · rw [wrap_fill s 0 h0 (by omega), if_pos (by omega)]; simp
      · rw [wrap_short s 0 (by omega), if_neg (by omega)]
  | f + 1, s, h => by
    simp only [linesOf]
    by_cases hb : 64 < s.length
    · rw [if_pos hb, linesOf_wrap f (s.drop 64) (by simp only [List.length_drop]; omega)]
      have h64 : (s.take 64).length = 64 := by simp only [List.length_take]; omega
      have e : wrap 0 s = wrap 0 (s.take 64) ++ wrap 64 (s.drop 64) := by
        have := wrap_append (s.take 64) 0 (s.drop 64)
        rw [List.take_append_drop, h64] at this
        simpa using this
      rw [e, wrap_fill (s.take 64) 0 (by intro hh; rw [hh] at h64; simp at h64) (by omega), wrap_mod (s.drop 64) 64 0 (by omega)]
      have hl : (s.drop 64).length % 64 = s.length % 64 := by simp only [List.length_drop]; omega
      rw [hl]
      simp
    · rw [if_neg hb]
      by_cases h0 : s = []
      · subst h0; simp [wrap]
      · have hp : 0 < s.length := List.length_pos_iff.2 h0
        rw [if_neg h0]
        by_cases h1 : s.length = 64
        · rw [wrap_fill s 0 h0 (by omega), if_pos (by omega)]; simp
        · rw [wrap_short s 0 (by omega), if_neg (by omega)]

/-- The text of a file. -/
def armorText (l : List UInt8) : List UInt8 := headLine ++ (wrap 0 (b64 l) ++ (if (b64 l).length % 64 = 0 then [] else [10])) ++ (footLine ++ [10])

#print axioms linesOf_wrap
end Go.Proofs.YtempflfhlbojgaaDoor
