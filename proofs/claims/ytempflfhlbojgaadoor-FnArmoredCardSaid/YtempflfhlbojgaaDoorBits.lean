/-
  Small laws on numbers: or, and of uint64 as sums and rests; one sign of a constant string joined to a string. No program in sight.
-/
import Derived.Test.YtempflfhlbojgaaDoorPlain
import Derived.WalkKit
namespace Go.Proofs.YtempflfhlbojgaaDoor
open Go.RowKit

theorem wrap_u64_of (n : Int) (h0 : 0 ≤ n) (h1 : n < 4294967296) : IntKind.u64.wrap n = n := by
  rw [IntKind.wrap]; simp [IntKind.bits, IntKind.signed]; omega

theorem u64_and63 (x : Nat) (hx : x < 4294967296) : bits BinOp.and IntKind.u64 (x : Int) 63 = ((x % 64 : Nat) : Int) := by
  have := bits_mask .u64 32 (by decide) (fun n h0 h1 => wrap_u64_of n h0 h1) 6 (by decide) (x : Int) (by omega) (by omega)
  simpa using this

theorem u64_or (i a b : Nat) (ha : a * 2 ^ i < 4294967296) (hb : b < 2 ^ i) (hi : i ≤ 32) : bits BinOp.or IntKind.u64 ((a * 2 ^ i : Nat) : Int) (b : Int) = ((a * 2 ^ i + b : Nat) : Int) := by
  have h := bits_nat .u64 32 (by decide) (fun n h0 h1 => wrap_u64_of n h0 h1) (a * 2 ^ i) b ha (Nat.lt_of_lt_of_le hb (Nat.le_trans (Nat.pow_le_pow_right (by omega) hi) (by omega)))
  have e : a * 2 ^ i ||| b = a * 2 ^ i + b := by
    rw [Nat.mul_comm]
    exact (Nat.two_pow_add_eq_or_of_lt hb a).symm
  rw [h.2, e]

theorem u64_or8 (v x : Nat) (hv : v < 65536) (hx : x < 256) : bits BinOp.or IntKind.u64 (IntKind.u64.wrap ((v : Int) * 256)) (IntKind.u64.wrap (x : Int)) = ((v * 256 + x : Nat) : Int) := by
  rw [wrap_u64_of ((v : Int) * 256) (by omega) (by omega), wrap_u64_of (x : Int) (by omega) (by omega)]
  have := u64_or 8 v x (by omega) (by omega) (by omega)
  simpa using this

theorem sig_at (t z : ByteArray) (d : Nat) (hd : d < 64) (hz : z.data.toList = signs) : (t ++ z.extract d (d + 1)).data.toList = t.data.toList ++ [sig d] := by
  have hs : List.take 1 (List.drop d signs) = [sig d] := by
    have h2 : d < signs.length := by rw [signs_length]; exact hd
    have e1 : sig d = signs[d] := by simp [sig, List.getD, List.getElem?_eq_getElem h2]
    rw [e1, List.drop_eq_getElem_cons h2, List.take_succ_cons, List.take_zero]
  simp [hz, hs]
end Go.Proofs.YtempflfhlbojgaaDoor
