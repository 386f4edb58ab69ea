import Derived.Test.Qxb6001731aFmtRows
import Derived.WalkKit
import Derived.WalkSpells
import Derived.Lib.Mul64
import Derived.Laws.Bits64b
namespace Go.Proofs.Qxb6001731aFmt
open Go.RowKit
set_option linter.unusedVariables false
set_option linter.unusedSimpArgs false

namespace Mul
theorem maskN (a : Nat) (ha : a < 18446744073709551616) : bits .and .u64 (a : Int) 4294967295 = ((a % 4294967296 : Nat) : Int) := by
  have h := bits_and_u64_nat a 4294967295 ha (by omega)
  have e : a &&& 4294967295 = a % 4294967296 := Nat.and_two_pow_sub_one_eq_mod a 32
  rw [e] at h
  exact h
theorem orN (a b : Nat) (hb : b < 4294967296) (ha : a < 4294967296) : bits .or .u64 ((a * 4294967296 : Nat) : Int) (b : Int) = ((a * 4294967296 + b : Nat) : Int) := by
  have h := bits_or_u64_nat (a * 4294967296) b (by omega) (by omega)
  have e : a * 4294967296 ||| b = a * 4294967296 + b := by
    have := Nat.shiftLeft_add_eq_or_of_lt (i := 32) (b := b) hb a
    rw [Nat.shiftLeft_eq] at this
    exact this.symm
  rw [e] at h
  exact h
theorem divN (a : Nat) : (a : Int) / 4294967296 = ((a / 4294967296 : Nat) : Int) := by omega
theorem mulN (a b : Nat) : (a : Int) * (b : Int) = ((a * b : Nat) : Int) := (Int.natCast_mul a b).symm
theorem addN (a b : Nat) : (a : Int) + (b : Int) = ((a + b : Nat) : Int) := (Int.natCast_add a b).symm
theorem wrapN (a : Nat) (ha : a < 18446744073709551616) : IntKind.u64.wrap (a : Int) = (a : Int) := by rw [IntKind.wrap_u64]; omega
theorem wrapS (a : Nat) : IntKind.u64.wrap ((a : Int) * 4294967296) = ((a % 4294967296 * 4294967296 : Nat) : Int) := by rw [IntKind.wrap_u64]; omega
end Mul

theorem mul_parts (x y : Nat) (hx : x < 18446744073709551616) (hy : y < 18446744073709551616) :
    x % 4294967296 * (y % 4294967296) ≤ 18446744065119617025 ∧ x % 4294967296 * (y / 4294967296) ≤ 18446744065119617025 ∧ x / 4294967296 * (y % 4294967296) ≤ 18446744065119617025 ∧ x / 4294967296 * (y / 4294967296) ≤ 18446744065119617025 ∧
    x * y = (x / 4294967296) * (y / 4294967296) * (4294967296 * 4294967296) + ((x / 4294967296) * (y % 4294967296) + (x % 4294967296) * (y / 4294967296)) * 4294967296 + (x % 4294967296) * (y % 4294967296) := by
  refine ⟨Lib.half_mul_le (by omega) (by omega), Lib.half_mul_le (by omega) (by omega), Lib.half_mul_le (by omega) (by omega), Lib.half_mul_le (by omega) (by omega), ?_⟩
  rw [← Lib.split_mul, Nat.div_add_mod' x 4294967296, Nat.div_add_mod' y 4294967296]

theorem hi_form (x y : Nat) (hx : x < 18446744073709551616) (hy : y < 18446744073709551616) :
    (IntKind.u64.wrap
            (IntKind.u64.wrap
                (IntKind.u64.wrap
                    (IntKind.u64.wrap ((x : Int) / 4294967296 * ((y : Int) / 4294967296)) +
                      IntKind.u64.wrap (bits BinOp.and IntKind.u64 (x : Int) 4294967295 * ((y : Int) / 4294967296)) / 4294967296) +
                  IntKind.u64.wrap ((x : Int) / 4294967296 * bits BinOp.and IntKind.u64 (y : Int) 4294967295) / 4294967296) +
              IntKind.u64.wrap
                  (IntKind.u64.wrap
                      (IntKind.u64.wrap
                            (bits BinOp.and IntKind.u64 (x : Int) 4294967295 * bits BinOp.and IntKind.u64 (y : Int) 4294967295) /
                          4294967296 +
                        bits BinOp.and IntKind.u64
                          (IntKind.u64.wrap (bits BinOp.and IntKind.u64 (x : Int) 4294967295 * ((y : Int) / 4294967296)))
                          4294967295) +
                    bits BinOp.and IntKind.u64
                      (IntKind.u64.wrap ((x : Int) / 4294967296 * bits BinOp.and IntKind.u64 (y : Int) 4294967295)) 4294967295) /
                4294967296)) = ((x * y / 18446744073709551616 : Nat) : Int) := by
  obtain ⟨b00, b01, b10, b11, e⟩ := mul_parts x y hx hy
  rw [e]
  simp only [Mul.maskN x hx, Mul.maskN y hy, Mul.divN, Mul.mulN]
  generalize x / 4294967296 * (y / 4294967296) = a at *
  generalize x / 4294967296 * (y % 4294967296) = b at *
  generalize x % 4294967296 * (y / 4294967296) = c at *
  generalize x % 4294967296 * (y % 4294967296) = d at *
  rw [Mul.wrapN a (by omega), Mul.wrapN b (by omega), Mul.wrapN c (by omega), Mul.wrapN d (by omega), Mul.maskN b (by omega), Mul.maskN c (by omega)]
  simp only [Mul.divN, Mul.addN]
  rw [Mul.wrapN (a + c / 4294967296) (by omega)]
  simp only [Mul.divN, Mul.addN]
  rw [Mul.wrapN (d / 4294967296 + c % 4294967296) (by omega)]
  simp only [Mul.divN, Mul.addN]
  rw [Mul.wrapN (a + c / 4294967296 + b / 4294967296) (by omega), Mul.wrapN (d / 4294967296 + c % 4294967296 + b % 4294967296) (by omega)]
  simp only [Mul.divN, Mul.addN]
  rw [Mul.wrapN _ (by omega)]
  congr 1
  omega

theorem lo_form (x y : Nat) (hx : x < 18446744073709551616) (hy : y < 18446744073709551616) :
    (bits BinOp.or IntKind.u64
            (IntKind.u64.wrap
              (IntKind.u64.wrap
                  (IntKind.u64.wrap
                      (IntKind.u64.wrap
                            (bits BinOp.and IntKind.u64 (x : Int) 4294967295 * bits BinOp.and IntKind.u64 (y : Int) 4294967295) /
                          4294967296 +
                        bits BinOp.and IntKind.u64
                          (IntKind.u64.wrap (bits BinOp.and IntKind.u64 (x : Int) 4294967295 * ((y : Int) / 4294967296)))
                          4294967295) +
                    bits BinOp.and IntKind.u64
                      (IntKind.u64.wrap ((x : Int) / 4294967296 * bits BinOp.and IntKind.u64 (y : Int) 4294967295)) 4294967295) *
                4294967296))
            (bits BinOp.and IntKind.u64
              (IntKind.u64.wrap
                (bits BinOp.and IntKind.u64 (x : Int) 4294967295 * bits BinOp.and IntKind.u64 (y : Int) 4294967295))
              4294967295)) = ((x * y % 18446744073709551616 : Nat) : Int) := by
  obtain ⟨b00, b01, b10, b11, e⟩ := mul_parts x y hx hy
  rw [e]
  simp only [Mul.maskN x hx, Mul.maskN y hy, Mul.divN, Mul.mulN]
  generalize x / 4294967296 * (y / 4294967296) = a at *
  generalize x / 4294967296 * (y % 4294967296) = b at *
  generalize x % 4294967296 * (y / 4294967296) = c at *
  generalize x % 4294967296 * (y % 4294967296) = d at *
  rw [Mul.wrapN b (by omega), Mul.wrapN c (by omega), Mul.wrapN d (by omega), Mul.maskN b (by omega), Mul.maskN c (by omega), Mul.maskN d (by omega)]
  simp only [Mul.divN, Mul.addN]
  rw [Mul.wrapN (d / 4294967296 + c % 4294967296) (by omega)]
  simp only [Mul.divN, Mul.addN]
  rw [Mul.wrapN (d / 4294967296 + c % 4294967296 + b % 4294967296) (by omega), Mul.wrapS, Mul.orN _ _ (by omega) (by omega)]
  congr 1
  omega

theorem ret_words {a b c d : Int} (h1 : a = b) (h2 : c = d) : Ending.returned (.tuple #[.int .u64 a, .int .u64 c]) = .returned (.tuple #[.int .u64 b, .int .u64 d]) := by rw [h1, h2]

set_option maxHeartbeats 1000000 in
theorem mul_any (x y : Nat) (hx : x < 18446744073709551616) (hy : y < 18446744073709551616) (w : World) :
    Calls Tryf.prog 17 #[.int .u64 x, .int .u64 y] w fun e w' => e = .returned (.tuple #[.int .u64 ((x * y / 18446744073709551616 : Nat) : Int), .int .u64 ((x * y % 18446744073709551616 : Nat) : Int)]) ∧ w' = w := by
  have h1 := hi_form x y hx hy
  have h2 := lo_form x y hx hy
  have H1 : Hid _ := h1
  have H2 : Hid _ := h2
  clear h1 h2
  go_enter Tryf.func17, Tryf.ntmps17
  go_wp2
  go_ret2
  exact ⟨ret_words H1.out H2.out, rfl⟩

/-- The product's two words. -/
def hiI (a b : Int) : Int := a * b / 18446744073709551616
def loI (a b : Int) : Int := a * b % 18446744073709551616

theorem mul_int (a b : Int) (ha : 0 ≤ a) (ha1 : a ≤ 18446744073709551615) (hb : 0 ≤ b) (hb1 : b ≤ 18446744073709551615) (w : World) :
    Calls Tryf.prog 17 #[.int .u64 a, .int .u64 b] w fun e w' => e = .returned (.tuple #[.int .u64 (hiI a b), .int .u64 (loI a b)]) ∧ w' = w := by
  obtain ⟨x, rfl⟩ := Int.eq_ofNat_of_zero_le ha
  obtain ⟨y, rfl⟩ := Int.eq_ofNat_of_zero_le hb
  refine (mul_any x y (by omega) (by omega) w).mono ?_
  rintro e w' ⟨rfl, rfl⟩
  refine ⟨ret_words ?_ ?_, rfl⟩
  · rw [hiI, ← Int.natCast_mul]; omega
  · rw [loI, ← Int.natCast_mul]; omega

/-- The product fits in an int64: told by its two words. -/
theorem words_fit (a b : Int) (ha : 0 ≤ a) (hb : 0 ≤ b) : (hiI a b = 0 ∧ loI a b ≤ 9223372036854775807) ↔ a * b ≤ 9223372036854775807 := by
  have h : 0 ≤ a * b := Int.mul_nonneg ha hb
  unfold hiI loI
  generalize a * b = m at *
  omega
end Go.Proofs.Qxb6001731aFmt
