import Derived.Test.Qxb6604355aOrd
import Derived.Test.Qxb6604355aFlx
namespace Go.Proofs.Qxb6604355a
open Go.RowKit
set_option linter.unusedSimpArgs false
set_option linter.unusedVariables false
set_option exponentiation.threshold 3000

theorem neg_zero_plus (w : World) : Calls Try.prog 9 #[.float .f64 0] w fun e w' => e = .returned (.bool false) ∧ w' = w := by
  have h1 : (FloatKind.f64.format.order 0 0 == some .eq) = true := by decide +kernel
  have h2 : (FloatKind.f64.format.order 9218868437227405312 0 == some .lt) = false := by decide +kernel
  have h3 := fun w : World => run_float_arith (P := Try.prog) w .quo 22 .f64 4607182418800017408 0 9218868437227405312 (by decide +kernel)
  go_enter Try.func9, Try.ntmps9
  go_wp2
  go_ret
  exact ⟨rfl, rfl⟩

theorem neg_zero_minus (w : World) : Calls Try.prog 9 #[.float .f64 9223372036854775808] w fun e w' => e = .returned (.bool true) ∧ w' = w := by
  have h1 : (FloatKind.f64.format.order 9223372036854775808 0 == some .eq) = true := by decide +kernel
  have h2 : (FloatKind.f64.format.order 18442240474082181120 0 == some .lt) = true := by decide +kernel
  have h3 := fun w : World => run_float_arith (P := Try.prog) w .quo 22 .f64 4607182418800017408 9223372036854775808 18442240474082181120 (by decide +kernel)
  go_enter Try.func9, Try.ntmps9
  go_wp2
  go_ret
  exact ⟨rfl, rfl⟩

theorem neg_word (v : Nat) (h : v < 9223372036854775808) : Op.negFloat .f64 v = 9223372036854775808 + v := by
  have e : Op.negFloat .f64 v = v ^^^ 2 ^ 63 := rfl
  rw [e]
  have e1 : (9223372036854775808 : Nat) = 2 ^ 63 := by decide
  have e2 : 9223372036854775808 + v = 2 ^ 63 * 1 + v := by rw [e1, Nat.mul_one]
  rw [e2, Nat.two_pow_add_eq_or_of_lt (by rw [← e1]; exact h), Nat.mul_one]
  apply Nat.eq_of_testBit_eq
  intro i
  rw [Nat.testBit_xor, Nat.testBit_or, Nat.testBit_two_pow]
  by_cases hi : 63 = i
  · subst hi
    rw [Nat.testBit_lt_two_pow (by rw [← e1]; exact h)]
    simp
  · simp [hi]

/-- the loops' invariant -/
def Inv (mm : Nat) (k0 : Int) (v : Nat) (k : Int) : Prop := v < INF ∧ (0 ≤ k ∧ k ≤ k0 ∨ k0 ≤ k ∧ k ≤ 0) ∧ M v = mm * 2 ^ (1074 + k0 - k).toNat
/-- what is known of the start -/
def Fit (mm : Nat) (k0 : Int) (r : Nat) : Prop := mm < 2 * B ∧ -1074 ≤ k0 ∧ k0 ≤ 971 ∧ M r = mm * 2 ^ (1074 + k0).toNat

theorem Inv.start {mm r : Nat} {k0 : Int} (h : Fit mm k0 r) : Inv mm k0 (floatOfInt .f64 (mm : Int)) k0 := by
  obtain ⟨h1, h2, h3, h4⟩ := h
  obtain ⟨v, hv, hvi⟩ := rung_finite mm 1074 h1 (by decide)
  have e : floatOfInt .f64 (mm : Int) = Ieee.double.nearest (decide ((mm : Int) < 0)) (mm : Int).natAbs 0 := rfl
  have e1 : decide ((mm : Int) < 0) = false := decide_eq_false (by omega)
  have e2 : (mm : Int).natAbs = mm := by omega
  have e3 : (1074 + k0 - k0).toNat = 1074 := by omega
  rw [e, e1, e2, nearest_nat mm v hvi hv]
  exact ⟨hvi, by omega, by rw [e3]; exact hv⟩

theorem Inv.up {mm r : Nat} {k0 : Int} (hf : Fit mm k0 r) {v : Nat} {k : Int} (h : Inv mm k0 v k) (hk : 0 < k) : ∃ v', floatBits .mul .f64 v 4611686018427387904 = some v' ∧ Inv mm k0 v' (k - 1) := by
  obtain ⟨h1, h2, h3, h4⟩ := hf
  obtain ⟨g1, g2, g3⟩ := h
  obtain ⟨v', hv, hvi⟩ := rung_finite mm (1074 + k0 - (k - 1)).toNat h1 (by omega)
  refine ⟨v', mul_two v v' g1 hvi ?_, hvi, by omega, hv⟩
  have e : (1074 + k0 - (k - 1)).toNat = (1074 + k0 - k).toNat + 1 := by omega
  rw [hv, g3, e, Nat.pow_succ, Nat.mul_assoc]

theorem Inv.down {mm r : Nat} {k0 : Int} (hf : Fit mm k0 r) {v : Nat} {k : Int} (h : Inv mm k0 v k) (hk : k < 0) : ∃ v', floatBits .mul .f64 v 4602678819172646912 = some v' ∧ Inv mm k0 v' (k + 1) := by
  obtain ⟨h1, h2, h3, h4⟩ := hf
  obtain ⟨g1, g2, g3⟩ := h
  obtain ⟨v', hv, hvi⟩ := rung_finite mm (1074 + k0 - (k + 1)).toNat h1 (by omega)
  refine ⟨v', mul_half v v' g1 hvi ?_, hvi, by omega, hv⟩
  have e : (1074 + k0 - k).toNat = (1074 + k0 - (k + 1)).toNat + 1 := by omega
  rw [hv, g3, e, Nat.pow_succ, Nat.mul_assoc]

theorem Inv.done {mm r : Nat} {k0 : Int} (hf : Fit mm k0 r) {v : Nat} (h : Inv mm k0 v 0) : v = r := by
  obtain ⟨h1, h2, h3, h4⟩ := hf
  obtain ⟨g1, g2, g3⟩ := h
  apply M_inj
  rw [g3, h4, Int.sub_zero]

theorem Inv.bounds {mm r : Nat} {k0 : Int} (hf : Fit mm k0 r) {v : Nat} {k : Int} (h : Inv mm k0 v k) : -1074 ≤ k ∧ k ≤ 971 ∧ v < 9223372036854775808 := by
  obtain ⟨h1, h2, h3, h4⟩ := hf
  obtain ⟨g1, g2, g3⟩ := h
  have := INF_lt
  unfold SW at this
  omega

theorem fit_low (x : Nat) (h : x < B) : Fit x (-1074) x := ⟨by omega, by omega, by omega, by simp [M, h]⟩
theorem fit_high (r : Nat) (h : B ≤ r) (hr : r < INF) : Fit (B + r % B) ((r / B : Nat) - 1075) r := by
  have h2 : r / B < 2047 := by
    rw [Nat.div_lt_iff_lt_mul (by decide)]
    exact hr
  have h3 : 1 ≤ r / B := (Nat.one_le_div_iff (by decide)).2 h
  have h4 : r % B < B := Nat.mod_lt _ (by decide)
  refine ⟨by omega, by omega, by omega, ?_⟩
  have e : (1074 + (((r / B : Nat) : Int) - 1075)).toNat = r / B - 1 := by omega
  rw [e]
  unfold M
  rw [if_neg (by omega)]
end Go.Proofs.Qxb6604355a
