/-
  Seat b6001556a: three bytes joined by '|' and '<<'. No Go in sight.
-/
import Derived.Laws.BitsAllLaws
namespace Go.Proofs.Qxb6001556a

theorem i64_or_nat (a b : Nat) (ha : a < 4611686018427387904) (hb : b < 4611686018427387904) : bits .or .i64 (a : Int) (b : Int) = ((a ||| b : Nat) : Int) := by
  have hx : a ||| b < 2 ^ 62 := Nat.or_lt_two_pow (by omega) (by omega)
  show IntKind.i64.wrap ((BitVec.ofInt 64 (a : Int) ||| BitVec.ofInt 64 (b : Int)).toNat : Int) = _
  rw [BitVec.toNat_or, ofInt_u64 a (by omega), ofInt_u64 b (by omega)]
  simp [IntKind.wrap, IntKind.bits, IntKind.signed]
  omega

theorem or_hi (a b s : Nat) (h : a < 2 ^ s) : a ||| b * 2 ^ s = a + b * 2 ^ s := by
  have := Nat.two_pow_add_eq_or_of_lt h b
  rw [Nat.or_comm, Nat.mul_comm, ← this]
  omega

theorem dec3 (nb : Nat) (h : nb ≤ 2097152) : bits .or .i64 (bits .or .i64 ((nb : Int) % 256) ((nb : Int) / 256 % 256 * 256)) ((nb : Int) / 65536 * 65536) = (nb : Int) := by
  have e1 : (nb : Int) % 256 = ((nb % 256 : Nat) : Int) := by omega
  have e2 : (nb : Int) / 256 % 256 * 256 = ((nb / 256 % 256 * 2 ^ 8 : Nat) : Int) := by omega
  have e3 : (nb : Int) / 65536 * 65536 = ((nb / 65536 * 2 ^ 16 : Nat) : Int) := by omega
  rw [e1, e2, e3, i64_or_nat _ _ (by omega) (by omega), or_hi _ _ 8 (by omega), i64_or_nat _ _ (by omega) (by omega), or_hi _ _ 16 (by omega)]
  omega

end Go.Proofs.Qxb6001556a
