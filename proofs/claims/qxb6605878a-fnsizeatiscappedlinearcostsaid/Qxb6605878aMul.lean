/-
  zzMulAdd (26): a*b+c in 128 bits.
-/
import Derived.Test.Qxb6605878aSize
import Derived.WalkKit
namespace Go.Proofs.Qxb6605878a.MulAdd
open Go.RowKit Size
set_option linter.unusedVariables false

theorem wraps64 (n : Int) (h0 : 0 ≤ n) (h1 : n < 2 ^ 64) : IntKind.u64.wrap n = n := by
  rw [IntKind.wrap_u64]; omega

theorem mask (x : Int) (h0 : 0 ≤ x) (h1 : x < 18446744073709551616) : bits .and .u64 x 4294967295 = x % 4294967296 :=
  bits_mask .u64 64 (by decide) wraps64 32 (by decide) x h0 h1

theorem join (x y : Int) (h0 : 0 ≤ x) (h1 : x < 4294967296) (hy0 : 0 ≤ y) (hy1 : y < 18446744073709551616) (hy : y % 4294967296 = 0) : bits .or .u64 x y = x + y := by
  obtain ⟨x, rfl⟩ := Int.eq_ofNat_of_zero_le h0
  obtain ⟨y, rfl⟩ := Int.eq_ofNat_of_zero_le hy0
  rw [bits_or_u64_nat x y (by omega) (by omega)]
  have e : y = 2 ^ 32 * (y / 4294967296) := by omega
  rw [Nat.or_comm]
  have := Nat.two_pow_add_eq_or_of_lt (i := 32) (b := x) (by omega) (y / 4294967296)
  rw [← e] at this
  omega

/-- The low word of a*b, as the text computes it. -/
def loE (a b : Int) : Int :=
  bits BinOp.or IntKind.u64
      (bits BinOp.and IntKind.u64
        (IntKind.u64.wrap (bits BinOp.and IntKind.u64 a 4294967295 * bits BinOp.and IntKind.u64 b 4294967295))
        4294967295)
      (IntKind.u64.wrap
        (IntKind.u64.wrap
            (IntKind.u64.wrap
                (IntKind.u64.wrap (bits BinOp.and IntKind.u64 a 4294967295 * bits BinOp.and IntKind.u64 b 4294967295) /
                    4294967296 +
                  bits BinOp.and IntKind.u64
                    (IntKind.u64.wrap (bits BinOp.and IntKind.u64 a 4294967295 * (b / 4294967296))) 4294967295) +
              bits BinOp.and IntKind.u64 (IntKind.u64.wrap (a / 4294967296 * bits BinOp.and IntKind.u64 b 4294967295))
                4294967295) *
          4294967296))

/-- The high word of a*b, as the text computes it. -/
def hiE (a b : Int) : Int :=
            (IntKind.u64.wrap
              (IntKind.u64.wrap
                  (IntKind.u64.wrap
                      (IntKind.u64.wrap (a / 4294967296 * (b / 4294967296)) +
                        IntKind.u64.wrap (bits BinOp.and IntKind.u64 a 4294967295 * (b / 4294967296)) / 4294967296) +
                    IntKind.u64.wrap (a / 4294967296 * bits BinOp.and IntKind.u64 b 4294967295) / 4294967296) +
                IntKind.u64.wrap
                    (IntKind.u64.wrap
                        (IntKind.u64.wrap
                              (bits BinOp.and IntKind.u64 a 4294967295 * bits BinOp.and IntKind.u64 b 4294967295) /
                            4294967296 +
                          bits BinOp.and IntKind.u64
                            (IntKind.u64.wrap (bits BinOp.and IntKind.u64 a 4294967295 * (b / 4294967296)))
                            4294967295) +
                      bits BinOp.and IntKind.u64
                        (IntKind.u64.wrap (a / 4294967296 * bits BinOp.and IntKind.u64 b 4294967295)) 4294967295) /
                  4294967296))

theorem mul_small (x y : Int) (hx : 0 ≤ x) (hx' : x ≤ 4294967295) (hy : 0 ≤ y) (hy' : y ≤ 4294967295) : 0 ≤ x * y ∧ x * y ≤ 18446744065119617025 :=
  ⟨Int.mul_nonneg hx hy, Int.le_trans (Int.mul_le_mul hx' hy' hy (by decide)) (by decide)⟩

theorem mul_eq (a b : Int) (ha : 0 ≤ a) (ha' : a < 18446744073709551616) (hb : 0 ≤ b) (hb' : b < 18446744073709551616) :
    loE a b = (a * b) % 18446744073709551616 ∧ hiE a b = (a * b) / 18446744073709551616 := by
  unfold loE hiE
  rw [mask a ha ha', mask b hb hb']
  have p00 := mul_small (a % 4294967296) (b % 4294967296) (by omega) (by omega) (by omega) (by omega)
  have p01 := mul_small (a % 4294967296) (b / 4294967296) (by omega) (by omega) (by omega) (by omega)
  have p10 := mul_small (a / 4294967296) (b % 4294967296) (by omega) (by omega) (by omega) (by omega)
  have p11 := mul_small (a / 4294967296) (b / 4294967296) (by omega) (by omega) (by omega) (by omega)
  have e : a * b = a / 4294967296 * (b / 4294967296) * 18446744073709551616 + (a % 4294967296 * (b / 4294967296) + a / 4294967296 * (b % 4294967296)) * 4294967296 + a % 4294967296 * (b % 4294967296) := by
    have ea : a = a / 4294967296 * 4294967296 + a % 4294967296 := by omega
    have eb : b = b / 4294967296 * 4294967296 + b % 4294967296 := by omega
    generalize a / 4294967296 = a1 at *
    generalize b / 4294967296 = b1 at *
    generalize a % 4294967296 = a0 at *
    generalize b % 4294967296 = b0 at *
    subst ea eb
    have e1 : a1 * 4294967296 * (b1 * 4294967296) = a1 * b1 * 18446744073709551616 := by
      rw [Int.mul_assoc a1, Int.mul_left_comm 4294967296 b1, ← Int.mul_assoc a1]; rfl
    have e2 : a1 * 4294967296 * b0 = a1 * b0 * 4294967296 := Int.mul_right_comm ..
    have e3 : a0 * (b1 * 4294967296) = a0 * b1 * 4294967296 := (Int.mul_assoc ..).symm
    rw [Int.add_mul, Int.mul_add, Int.mul_add, e1, e2, e3]
    omega
  rw [e]
  generalize a % 4294967296 * (b % 4294967296) = q00 at *
  generalize a % 4294967296 * (b / 4294967296) = q01 at *
  generalize a / 4294967296 * (b % 4294967296) = q10 at *
  generalize a / 4294967296 * (b / 4294967296) = q11 at *
  rw [wraps64 q00 (by omega) (by omega), wraps64 q01 (by omega) (by omega), wraps64 q10 (by omega) (by omega), wraps64 q11 (by omega) (by omega)]
  rw [mask q00 (by omega) (by omega), mask q01 (by omega) (by omega), mask q10 (by omega) (by omega)]
  simp only [IntKind.wrap_u64]
  refine ⟨?_, by omega⟩
  rw [join _ _ (by omega) (by omega) (by omega) (by omega) (by omega)]
  omega

theorem fin_up (a b c : Int) (ha : 0 ≤ a) (ha' : a < 18446744073709551616) (hb : 0 ≤ b) (hb' : b < 18446744073709551616) (hc : 0 ≤ c) (hc' : c < 18446744073709551616)
    (h : IntKind.u64.wrap (loE a b + c) < loE a b) : IntKind.u64.wrap (hiE a b + 1) = (a * b + c) / 18446744073709551616 := by
  obtain ⟨e1, e2⟩ := mul_eq a b ha ha' hb hb'
  rw [e1, IntKind.wrap_u64] at h
  have h0 : 0 ≤ a * b := Int.mul_nonneg ha hb
  have h1 : a * b ≤ 18446744073709551615 * 18446744073709551615 := Int.mul_le_mul (by omega) (by omega) hb (by decide)
  rw [e2, IntKind.wrap_u64]
  omega

theorem fin_even (a b c : Int) (ha : 0 ≤ a) (ha' : a < 18446744073709551616) (hb : 0 ≤ b) (hb' : b < 18446744073709551616) (hc : 0 ≤ c) (hc' : c < 18446744073709551616)
    (h : loE a b ≤ IntKind.u64.wrap (loE a b + c)) : hiE a b = (a * b + c) / 18446744073709551616 := by
  obtain ⟨e1, e2⟩ := mul_eq a b ha ha' hb hb'
  rw [e1, IntKind.wrap_u64] at h
  have h0 : 0 ≤ a * b := Int.mul_nonneg ha hb
  have h1 : a * b ≤ 18446744073709551615 * 18446744073709551615 := Int.mul_le_mul (by omega) (by omega) hb (by decide)
  rw [e2]
  omega

theorem fin_lo (a b c : Int) (ha : 0 ≤ a) (ha' : a < 18446744073709551616) (hb : 0 ≤ b) (hb' : b < 18446744073709551616) :
    IntKind.u64.wrap (loE a b + c) = (a * b + c) % 18446744073709551616 := by
  obtain ⟨e1, e2⟩ := mul_eq a b ha ha' hb hb'
  rw [e1, IntKind.wrap_u64]
  omega

theorem ret_two {k : IntKind} {a a' b b' : Int} (h : a = a') (h' : b = b') : Ending.returned (.tuple #[.int k a, .int k b]) = .returned (.tuple #[.int k a', .int k b']) := by rw [h, h']

set_option maxHeartbeats 400000 in
theorem mulAdd_any (a b c : Int) (w : World) (ha : 0 ≤ a) (ha' : a < 18446744073709551616) (hb : 0 ≤ b) (hb' : b < 18446744073709551616) (hc : 0 ≤ c) (hc' : c < 18446744073709551616) :
    Calls Try.prog 26 #[.int .u64 a, .int .u64 b, .int .u64 c] w fun e w' =>
      e = .returned (.tuple #[.int .u64 ((a * b + c) / 18446744073709551616), .int .u64 ((a * b + c) % 18446744073709551616)]) ∧ w' = w := by
  go_enter Try.func26, Try.ntmps26
  go_wp2
  · go_ret2
    exact ⟨ret_two (fin_up a b c ha ha' hb hb' hc hc' ‹_›) (fin_lo a b c ha ha' hb hb'), rfl⟩
  · go_ret2
    exact ⟨ret_two (fin_even a b c ha ha' hb hb' hc hc' ‹_›) (fin_lo a b c ha ha' hb hb'), rfl⟩

end Go.Proofs.Qxb6605878a.MulAdd
