import Derived.Test.Qxb6604355aFlo
namespace Go.Proofs.Qxb6604355a
open Ieee
set_option exponentiation.threshold 3000

theorem cut_exact (neg : Bool) (t drop : Nat) (ht : 0 < t) : Toward.even.cut neg (t * 2 ^ drop) drop = t := by
  have hp : 0 < 2 ^ drop := Nat.two_pow_pos drop
  have h1 : drop ≤ (t * 2 ^ drop).log2 := by
    rw [Nat.le_log2 (by have := Nat.mul_pos ht hp; omega)]
    exact Nat.le_mul_of_pos_left _ ht
  have h2 : min drop ((t * 2 ^ drop).log2 + 2) = drop := by omega
  unfold Toward.cut
  simp only [h2, Nat.shiftLeft_eq, Nat.one_mul]
  rw [Nat.mul_div_cancel _ hp, Nat.mul_mod_left]
  have h3 : (2 ^ drop == 2 * 0) = false := by
    rw [Nat.mul_zero]
    exact beq_false_of_ne (by omega)
  have h4 : decide (2 ^ drop < 2 * 0) = false := decide_eq_false (by omega)
  rw [h3, h4]
  simp

theorem log2_mul_pow (m a : Nat) (h : 0 < m) : (m * 2 ^ a).log2 = m.log2 + a := by
  have h0 : m * 2 ^ a ≠ 0 := by
    have := Nat.mul_pos h (Nat.two_pow_pos a)
    omega
  rw [Nat.log2_eq_iff h0]
  constructor
  · rw [Nat.pow_add]
    exact Nat.mul_le_mul_right _ (Nat.log2_self_le (by omega))
  · rw [show m.log2 + a + 1 = (m.log2 + 1) + a by omega, Nat.pow_add]
    exact Nat.mul_lt_mul_of_pos_right Nat.lt_log2_self (Nat.two_pow_pos a)

/-- A number that the format has is written as it is. -/
theorem nearest_exact (neg : Bool) (mag : Nat) (place : Int) (r a b : Nat) (hm : 0 < mag) (hr : r < INF) (hp : place + b = -1074 + a) (hv : mag * 2 ^ a = M r * 2 ^ b) :
    double.nearest neg mag place = double.word neg r := by
  obtain ⟨s, d, hrd, hM, hs, hd⟩ := M_split r
  rw [hM] at hv
  have hs0 : 0 < s := by
    rcases Nat.eq_zero_or_pos s with h | h
    · subst h
      have := Nat.mul_pos hm (Nat.two_pow_pos a)
      simp at hv
      omega
    · exact h
  have hlog : mag.log2 + a = s.log2 + d + b := by
    have := congrArg Nat.log2 hv
    rw [log2_mul_pow _ _ hm, log2_mul_pow _ _ (Nat.mul_pos hs0 (Nat.two_pow_pos d)), log2_mul_pow _ _ hs0] at this
    exact this
  have hlt : s.log2 < 53 := by
    rw [Nat.log2_lt (by omega)]
    exact Nat.lt_of_lt_of_le hs (by decide)
  have hge : d = 0 ∨ s.log2 = 52 := by
    rcases hd with h | h
    · exact Or.inl h
    · right
      have : 52 ≤ s.log2 := by
        rw [Nat.le_log2 (by omega)]
        exact Nat.le_trans (by decide) h
      omega
  unfold Format.nearest
  rw [if_neg (by omega), lp_eq, inf_eq, binade_eq]
  have hlast : max (place + mag.log2 - double.fractionBits) (-1074) = -1074 + (d : Int) := by
    have : (double.fractionBits : Int) = 52 := rfl
    rw [this]
    rcases hge with h | h
    · subst h
      omega
    · omega
  simp only [hlast]
  have hd2 : (-1074 + (d : Int) - -1074).toNat = d := by omega
  rw [hd2]
  have hkept : Toward.even.cut neg (mag <<< (place - (-1074 + (d : Int))).toNat) (-1074 + (d : Int) - place).toNat = s := by
    rw [Nat.shiftLeft_eq]
    rcases Int.le_total (-1074 + (d : Int)) place with h | h
    · obtain ⟨u, hu⟩ : ∃ u : Nat, place = -1074 + d + u := ⟨(place - (-1074 + d)).toNat, by omega⟩
      have e1 : (place - (-1074 + (d : Int))).toNat = u := by omega
      have e2 : (-1074 + (d : Int) - place).toNat = 0 := by omega
      rw [e1, e2]
      have e3 : a = d + u + b := by omega
      have e4 : mag * 2 ^ u = s := by
        have hq : mag * 2 ^ u * (2 ^ d * 2 ^ b) = s * (2 ^ d * 2 ^ b) := by
          rw [← Nat.mul_assoc s, ← hv, e3, Nat.mul_assoc, ← Nat.pow_add, ← Nat.pow_add]
          congr 2
          omega
        exact Nat.eq_of_mul_eq_mul_right (Nat.mul_pos (Nat.two_pow_pos d) (Nat.two_pow_pos b)) hq
      rw [e4]
      have := cut_exact neg s 0 hs0
      rwa [Nat.pow_zero, Nat.mul_one] at this
    · obtain ⟨u, hu⟩ : ∃ u : Nat, place + u = -1074 + d := ⟨(-1074 + d - place).toNat, by omega⟩
      have e1 : (place - (-1074 + (d : Int))).toNat = 0 := by omega
      have e2 : (-1074 + (d : Int) - place).toNat = u := by omega
      rw [e1, e2, Nat.pow_zero, Nat.mul_one]
      have e3 : a + u = d + b := by omega
      have e4 : mag = s * 2 ^ u := by
        have hq : mag * 2 ^ a = s * 2 ^ u * 2 ^ a := by
          rw [hv, Nat.mul_assoc, Nat.mul_assoc, ← Nat.pow_add, ← Nat.pow_add]
          congr 2
          omega
        exact Nat.eq_of_mul_eq_mul_right (Nat.two_pow_pos a) hq
      rw [e4]
      exact cut_exact neg s u hs0
  rw [hkept, ← hrd, Nat.min_eq_left (by omega)]

/-- every number of 53 digits at most has a rung -/
theorem rung_exists (s : Nat) : ∀ d, s < 2 * B → ∃ r, M r = s * 2 ^ d := by
  intro d
  rcases Nat.eq_zero_or_pos s with h0 | h0
  · intro _
    exact ⟨0, by rw [h0, M_zero, Nat.zero_mul]⟩
  · induction d generalizing s with
    | zero =>
      intro hs
      exact ⟨0 * B + s, M_join s 0 hs (Or.inl rfl)⟩
    | succ d ih =>
      intro hs
      rcases Nat.lt_or_ge s B with h | h
      · obtain ⟨r, hr⟩ := ih (s * 2) (by omega) (by omega)
        exact ⟨r, by rw [hr, Nat.pow_succ, Nat.mul_assoc, Nat.mul_comm 2]⟩
      · exact ⟨(d + 1) * B + s, M_join s (d + 1) hs (Or.inr h)⟩

theorem M_INF : M INF = B * 2 ^ 2046 := M_join B 2046 (by decide) (Or.inr (Nat.le_refl _))

/-- .. and it is finite -/
theorem rung_finite (s d : Nat) (hs : s < 2 * B) (hd : d ≤ 2045) : ∃ r, M r = s * 2 ^ d ∧ r < INF := by
  obtain ⟨r, hr⟩ := rung_exists s d hs
  refine ⟨r, hr, M_lt_iff.1 ?_⟩
  rw [hr, M_INF]
  have h1 : s * 2 ^ d < 2 * B * 2 ^ d := Nat.mul_lt_mul_of_pos_right hs (Nat.two_pow_pos d)
  have h2 : 2 * B * 2 ^ d = B * 2 ^ (d + 1) := by rw [Nat.pow_succ, Nat.mul_comm (2 ^ d), ← Nat.mul_assoc, Nat.mul_comm B]
  have h3 : B * 2 ^ (d + 1) ≤ B * 2 ^ 2046 := Nat.mul_le_mul_left _ (Nat.pow_le_pow_right (by decide) (by omega))
  omega

theorem INF_lt : INF < SW := by decide

theorem mul_gen (v r c : Nat) (q : Nat) (hv : v < INF) (hr : r < INF) (hc : double.read c = .number false (2 ^ 52) (-1074 + (q : Int))) (b : Nat) (hb : b + q = 1074) (h : M v * 2 ^ 52 = M r * 2 ^ b) :
    double.mul v c = some r := by
  have hsw := INF_lt
  have h1 : v % SW = v := Nat.mod_eq_of_lt (by omega)
  have h2 : v / SW = 0 := Nat.div_eq_of_lt (by omega)
  obtain ⟨s, d, _, hM, _, _, e⟩ := read_num h1 hv
  unfold Format.mul
  rw [e, hc, h2]
  have e0 : (0 % 2 == 1) = false := rfl
  rw [e0]
  simp only [Datum.product, Option.map_some, Format.write, Bool.xor_false, Option.some.injEq]
  rcases Nat.eq_zero_or_pos s with h0 | h0
  · subst h0
    rw [Nat.zero_mul] at hM ⊢
    rw [hM, Nat.zero_mul] at h
    have hz : r = 0 := by
      rcases Nat.eq_zero_or_pos r with h' | h'
      · exact h'
      · have := Nat.mul_pos (M_pos h') (Nat.two_pow_pos b)
        omega
    subst hz
    rfl
  · rw [nearest_exact false (s * 2 ^ 52) _ r d b (Nat.mul_pos h0 (by decide)) hr (by omega) (by rw [← h, hM, Nat.mul_assoc, Nat.mul_assoc, Nat.mul_comm (2 ^ 52)])]
    rfl

theorem mul_two (v r : Nat) (hv : v < INF) (hr : r < INF) (h : M r = M v * 2) : double.mul v 4611686018427387904 = some r := by
  refine mul_gen v r _ 1023 hv hr (by decide) 51 (by decide) ?_
  rw [h, Nat.mul_assoc]
theorem mul_half (v r : Nat) (hv : v < INF) (hr : r < INF) (h : M v = M r * 2) : double.mul v 4602678819172646912 = some r := by
  refine mul_gen v r _ 1021 hv hr (by decide) 53 (by decide) ?_
  rw [h, Nat.mul_assoc]

/-- a whole number of 53 digits -/
theorem nearest_nat (n r : Nat) (hr : r < INF) (h : M r = n * 2 ^ 1074) : double.nearest false n 0 = r := by
  rcases Nat.eq_zero_or_pos n with h0 | h0
  · subst h0
    rw [Nat.zero_mul] at h
    have hz : r = 0 := by
      rcases Nat.eq_zero_or_pos r with h' | h'
      · exact h'
      · have := M_pos h'
        omega
    subst hz
    rfl
  · rw [nearest_exact false n 0 r 1074 0 h0 hr (by omega) (by rw [h]; simp)]
    rfl
end Go.Proofs.Qxb6604355a
