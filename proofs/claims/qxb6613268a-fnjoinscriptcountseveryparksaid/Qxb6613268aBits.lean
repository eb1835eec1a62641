/-
  The masks of parking's state word, as plain arithmetic. No Go in sight.
-/
import Derived.Laws.BitsAllLaws
namespace Go.Proofs.Qxb6613268a

theorem and_stop (s : Int) (h0 : 0 ≤ s) (h1 : s < 18446744073709551616) : bits BinOp.and IntKind.u64 s 9223372036854775808 = s / 9223372036854775808 * 9223372036854775808 := by
  rw [u64_and _ _ h0 h1 (by omega) (by omega), show (9223372036854775808 : Int).toNat = 9223372036854775808 from rfl, nat_bit63]
  omega

theorem and_carry (s : Int) (h0 : 0 ≤ s) (h1 : s < 18446744073709551616) : bits BinOp.and IntKind.u64 s 4611686018427387904 = s / 4611686018427387904 % 2 * 4611686018427387904 := by
  rw [u64_and _ _ h0 h1 (by omega) (by omega), show (4611686018427387904 : Int).toNat = 4611686018427387904 from rfl, nat_bit62]
  omega

theorem and_parked (s : Int) (h0 : 0 ≤ s) (h1 : s < 18446744073709551616) : bits BinOp.and IntKind.u64 s 4294967295 = s % 4294967296 := by
  rw [u64_and _ _ h0 h1 (by omega) (by omega), show (4294967295 : Int).toNat = 4294967295 from rfl, nat_mask32]
  omega

theorem nat_parks (x : Nat) : x &&& 4611686014132420608 = x % 4611686018427387904 / 4294967296 * 4294967296 := nat_midmask 62 32 x (by decide)
theorem nat_both (x : Nat) : x &&& 9223372032559808512 = x % 9223372036854775808 / 4294967296 * 4294967296 := nat_midmask 63 32 x (by decide)
theorem nat_top2 (x : Nat) : x &&& 13835058055282163712 = x % 18446744073709551616 / 4611686018427387904 * 4611686018427387904 := nat_midmask 64 62 x (by decide)

theorem and_parks (s : Int) (h0 : 0 ≤ s) (h1 : s < 18446744073709551616) : bits BinOp.and IntKind.u64 s 4611686014132420608 = s / 4294967296 % 1073741824 * 4294967296 := by
  rw [u64_and _ _ h0 h1 (by omega) (by omega), show (4611686014132420608 : Int).toNat = 4611686014132420608 from rfl, nat_parks]
  omega

theorem and_both (s : Int) (h0 : 0 ≤ s) (h1 : s < 18446744073709551616) : bits BinOp.and IntKind.u64 s 9223372032559808512 = s / 4294967296 % 2147483648 * 4294967296 := by
  rw [u64_and _ _ h0 h1 (by omega) (by omega), show (9223372032559808512 : Int).toNat = 9223372032559808512 from rfl, nat_both]
  omega

theorem andNot_parks (s : Int) (h0 : 0 ≤ s) (h1 : s < 4611686018427387904) : bits BinOp.andNot IntKind.u64 s 4611686014132420608 = s % 4294967296 := by
  rw [u64_andNot _ _ h0 (by omega) (by omega) (by omega), show (18446744073709551615 - (4611686014132420608 : Int).toNat) = 13835058055282163712 ||| 4294967295 from by decide,
    Nat.and_or_distrib_left, nat_top2, nat_mask32, show s.toNat % 18446744073709551616 / 4611686018427387904 * 4611686018427387904 = 0 from by omega, Nat.zero_or]
  omega

theorem or_carry (p : Int) (h0 : 0 ≤ p) (h1 : p < 4611686018427387904) : bits BinOp.or IntKind.u64 p 4611686018427387904 = p + 4611686018427387904 := by
  rw [u64_or _ _ h0 (by omega) (by omega) (by omega), show (4611686018427387904 : Int).toNat = 4611686018427387904 from rfl, Nat.or_comm, nat_join 62 _ _ (by decide) (by omega)]
  omega

theorem and_notCarry (x : Int) (h0 : 4611686018427387904 ≤ x) (h1 : x < 9223372036854775808) : bits BinOp.and IntKind.u64 x 13835058055282163711 = x - 4611686018427387904 := by
  rw [u64_and _ _ (by omega) (by omega) (by omega) (by omega), show (13835058055282163711 : Int).toNat = 9223372036854775808 ||| 4611686018427387903 from by decide,
    Nat.and_or_distrib_left, nat_bit63, nat_mask62, show x.toNat / 9223372036854775808 % 2 * 9223372036854775808 = 0 from by omega, Nat.zero_or]
  omega

theorem or_halves (a b : Int) (a0 : 0 ≤ a) (a1 : a < 4294967296) (b0 : 0 ≤ b) (b1 : b < 4294967296) :
    bits BinOp.or IntKind.u64 (a * 4294967296) b = a * 4294967296 + b := by
  rw [u64_or _ _ (by omega) (by omega) b0 (by omega)]
  rw [nat_join 32 _ _ (by omega) (by omega)]
  omega

end Go.Proofs.Qxb6613268a
