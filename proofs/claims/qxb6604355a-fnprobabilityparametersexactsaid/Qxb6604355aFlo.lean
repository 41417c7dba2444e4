import Ieee.Arith
namespace Go.Proofs.Qxb6604355a
open Ieee

/-- the rungs of one binade -/
def B : Nat := 4503599627370496
/-- the rung of infinity -/
def INF : Nat := 9218868437227405312
/-- the sign's weight -/
def SW : Nat := 9223372036854775808

/-- the magnitude of a rung, in units of the least place -/
def M (r : Nat) : Nat := if r < B then r else (B + r % B) * 2 ^ (r / B - 1)

/-- the signed magnitude of a word -/
def K (x : Nat) : Int := if x / SW % 2 = 1 then -(M (x % SW) : Int) else (M (x % SW) : Int)

theorem lp_eq : double.leastPlace = -1074 := by decide
theorem binade_eq : double.binade = B := by decide
theorem inf_eq : double.infRung = INF := by decide
theorem sw_eq : double.signWeight = SW := by decide

theorem M_split (r : Nat) : ∃ s d, r = d * B + s ∧ M r = s * 2 ^ d ∧ s < 2 * B ∧ (d = 0 ∨ B ≤ s) := by
  unfold M
  have hB : 0 < B := by decide
  by_cases h : r < B
  · exact ⟨r, 0, by simp, by simp [h], by omega, Or.inl rfl⟩
  · refine ⟨B + r % B, r / B - 1, ?_, by simp [h], ?_, Or.inr (by omega)⟩
    · have h1 := Nat.div_add_mod r B
      have h2 : 1 ≤ r / B := (Nat.one_le_div_iff hB).2 (by omega)
      obtain ⟨q, hq⟩ : ∃ q, r / B = q + 1 := ⟨r / B - 1, by omega⟩
      rw [hq] at h1 ⊢
      have h3 : q + 1 - 1 = q := by omega
      rw [h3]
      have h4 : B * (q + 1) = q * B + B := by rw [Nat.mul_comm, Nat.succ_mul]
      omega
    · have := Nat.mod_lt r hB
      omega

theorem M_join (s d : Nat) (hs : s < 2 * B) (hd : d = 0 ∨ B ≤ s) : M (d * B + s) = s * 2 ^ d := by
  have hB : 0 < B := by decide
  unfold M
  by_cases h : d * B + s < B
  · have hd0 : d = 0 := by
      rcases hd with h0 | h0
      · exact h0
      · omega
    subst hd0
    simp only [Nat.zero_mul, Nat.zero_add] at h ⊢
    simp [h]
  · rw [if_neg h]
    by_cases hsB : s < B
    · exfalso
      rcases hd with h0 | h0
      · subst h0
        omega
      · omega
    · obtain ⟨c, hc⟩ : ∃ c, s = B + c := ⟨s - B, by omega⟩
      subst hc
      have hcB : c < B := by omega
      have e1 : d * B + (B + c) = c + (d + 1) * B := by rw [Nat.succ_mul]; omega
      have e2 : (d * B + (B + c)) % B = c := by rw [e1, Nat.add_mul_mod_self_right, Nat.mod_eq_of_lt hcB]
      have e3 : (d * B + (B + c)) / B = d + 1 := by
        rw [e1, Nat.add_mul_div_right _ _ hB, Nat.div_eq_of_lt hcB]; omega
      rw [e2, e3]
      simp

theorem M_succ (r : Nat) : M r < M (r + 1) := by
  have hB : 0 < B := by decide
  obtain ⟨s, d, hr, hM, hs, hd⟩ := M_split r
  have hp : 0 < 2 ^ d := Nat.two_pow_pos d
  by_cases h : s + 1 < 2 * B
  · have e : r + 1 = d * B + (s + 1) := by omega
    rw [e, M_join (s + 1) d h (by omega), hM, Nat.succ_mul]
    omega
  · have hs' : s + 1 = 2 * B := by omega
    have e : r + 1 = (d + 1) * B + B := by rw [Nat.succ_mul]; omega
    rw [e, M_join B (d + 1) (by omega) (Or.inr (Nat.le_refl _)), hM]
    have e2 : B * 2 ^ (d + 1) = (s + 1) * 2 ^ d := by rw [hs', Nat.pow_succ, Nat.mul_comm (2 ^ d) 2, ← Nat.mul_assoc, Nat.mul_comm B 2]
    rw [e2, Nat.succ_mul]
    omega

theorem M_lt {a b : Nat} (h : a < b) : M a < M b := by
  induction b with
  | zero => omega
  | succ n ih =>
    rcases Nat.lt_or_ge a n with h1 | h1
    · exact Nat.lt_trans (ih h1) (M_succ n)
    · have : a = n := by omega
      subst this
      exact M_succ a

theorem M_inj {a b : Nat} (h : M a = M b) : a = b := by
  rcases Nat.lt_trichotomy a b with h1 | h1 | h1
  · have := M_lt h1; omega
  · exact h1
  · have := M_lt h1; omega

theorem M_lt_iff {a b : Nat} : M a < M b ↔ a < b := by
  constructor
  · intro h
    rcases Nat.lt_trichotomy a b with h1 | h1 | h1
    · exact h1
    · subst h1; omega
    · have := M_lt h1; omega
  · exact M_lt

theorem M_zero : M 0 = 0 := by decide

theorem M_pos {r : Nat} (h : 0 < r) : 0 < M r := by
  have := M_lt h
  rw [M_zero] at this
  exact this

/-- a number is read -/
theorem read_num {x r : Nat} (hr : x % SW = r) (hlt : r < INF) :
    ∃ s d, r = d * B + s ∧ M r = s * 2 ^ d ∧ s < 2 * B ∧ (d = 0 ∨ B ≤ s) ∧
      double.read x = .number (x / SW % 2 == 1) s (-1074 + (d : Int)) := by
  have hB : 0 < B := by decide
  unfold Format.read
  rw [lp_eq, binade_eq, inf_eq, sw_eq, hr]
  by_cases h : r < B
  · exact ⟨r, 0, by simp, by simp [M, h], by omega, Or.inl rfl, by simp [h]⟩
  · refine ⟨B + r % B, r / B - 1, ?_, by simp [M, h], ?_, Or.inr (by omega), ?_⟩
    · have h1 := Nat.div_add_mod r B
      have h2 : 1 ≤ r / B := (Nat.one_le_div_iff hB).2 (by omega)
      obtain ⟨q, hq⟩ : ∃ q, r / B = q + 1 := ⟨r / B - 1, by omega⟩
      rw [hq] at h1 ⊢
      have h3 : q + 1 - 1 = q := by omega
      rw [h3]
      have h4 : B * (q + 1) = q * B + B := by rw [Nat.mul_comm, Nat.succ_mul]
      omega
    · have := Nat.mod_lt r hB
      omega
    · simp [h, hlt]

theorem read_inf {x : Nat} (hr : x % SW = INF) : double.read x = .infinity (x / SW % 2 == 1) := by
  unfold Format.read
  rw [lp_eq, binade_eq, inf_eq, sw_eq, hr]
  have h : ¬ INF < B := by decide
  simp [h]

theorem read_nan {x : Nat} (hr : INF < x % SW) : ∃ s f, double.read x = .nan s f := by
  unfold Format.read
  rw [lp_eq, binade_eq, inf_eq, sw_eq]
  generalize x % SW = r at *
  have h : ¬ r < B := by simp only [INF, B] at *; omega
  have h2 : ¬ r < INF := by omega
  have h3 : ¬ r = INF := by omega
  refine ⟨(x / SW % 2 == 1), r - INF, ?_⟩
  simp only [h, h2, h3, if_false]

theorem order_nan_l {x : Nat} (y : Nat) (h : INF < x % SW) : double.order x y = none := by
  obtain ⟨s, f, e⟩ := read_nan h
  unfold Format.order
  rw [e]
  cases double.read y <;> rfl

theorem order_nan_r (x : Nat) {y : Nat} (h : INF < y % SW) : double.order x y = none := by
  obtain ⟨s, f, e⟩ := read_nan h
  unfold Format.order
  rw [e]
  cases double.read x <;> rfl

theorem compare_mul (a b : Int) (p : Nat) (hp : 0 < p) : compare (a * p) (b * p) = compare a b := by
  have hp' : (0 : Int) < p := by omega
  rcases Int.lt_trichotomy a b with h | h | h
  · rw [Int.compare_eq_lt.2 h, Int.compare_eq_lt.2 (Int.mul_lt_mul_of_pos_right h hp')]
  · subst h
    rw [Int.compare_eq_eq.2 rfl, Int.compare_eq_eq.2 rfl]
  · rw [Int.compare_eq_gt.2 h, Int.compare_eq_gt.2 (Int.mul_lt_mul_of_pos_right h hp')]

theorem signed_mul (s : Bool) (m up c : Nat) : signed s m up * ((2 ^ c : Nat) : Int) = signed s m (up + c) := by
  unfold signed
  cases s
  · simp [Nat.shiftLeft_eq, Nat.pow_add, Int.mul_assoc]
  · simp [Nat.shiftLeft_eq, Nat.pow_add, Int.mul_assoc, Int.neg_mul]

theorem order_num (s t : Bool) (m n a b : Nat) :
    Datum.order (.number s m (-1074 + (a : Int))) (.number t n (-1074 + (b : Int))) = some (compare (signed s m a) (signed t n b)) := by
  unfold Datum.order
  simp only
  have e1 : (-1074 + (a : Int) - min (-1074 + (a : Int)) (-1074 + (b : Int))).toNat = a - min a b := by omega
  have e2 : (-1074 + (b : Int) - min (-1074 + (a : Int)) (-1074 + (b : Int))).toNat = b - min a b := by omega
  rw [e1, e2, ← compare_mul _ _ (2 ^ min a b) (Nat.two_pow_pos _), signed_mul, signed_mul]
  have e3 : a - min a b + min a b = a := by omega
  have e4 : b - min a b + min a b = b := by omega
  rw [e3, e4]

def sg (s : Bool) (m : Nat) : Int := if s then -(m : Int) else (m : Int)

theorem signed_sg (s : Bool) (m d : Nat) : signed s m d = sg s (m * 2 ^ d) := by
  unfold signed sg
  cases s <;> simp [Nat.shiftLeft_eq]

theorem K_sg (x : Nat) : K x = sg (x / SW % 2 == 1) (M (x % SW)) := by
  unfold K sg
  by_cases h : x / SW % 2 = 1 <;> simp [h]

/-- HOW TWO WORDS STAND -/
theorem order_K (x y : Nat) (hx : x % SW ≤ INF) (hy : y % SW ≤ INF) : double.order x y = some (compare (K x) (K y)) := by
  unfold Format.order
  rw [K_sg, K_sg]
  generalize hs : (x / SW % 2 == 1) = s
  generalize ht : (y / SW % 2 == 1) = t
  rcases Nat.lt_or_ge (x % SW) INF with h1 | h1 <;> rcases Nat.lt_or_ge (y % SW) INF with h2 | h2
  · obtain ⟨m, a, _, hm, _, _, e⟩ := read_num rfl h1
    obtain ⟨n, b, _, hn, _, _, e'⟩ := read_num rfl h2
    rw [e, e', order_num, hs, ht, hm, hn, signed_sg, signed_sg]
  · have h2' : y % SW = INF := by omega
    obtain ⟨m, a, _, hm, _, _, e⟩ := read_num rfl h1
    rw [e, read_inf h2', ht, h2']
    have h3 := M_lt h1
    unfold Datum.order sg
    cases s <;> cases t <;> simp
    · exact (Int.compare_eq_lt.2 (by omega)).symm
    · exact (Int.compare_eq_gt.2 (by omega)).symm
    · exact (Int.compare_eq_lt.2 (by omega)).symm
    · exact (Int.compare_eq_gt.2 (by omega)).symm
  · have h1' : x % SW = INF := by omega
    obtain ⟨m, a, _, hm, _, _, e⟩ := read_num rfl h2
    rw [e, read_inf h1', hs, h1']
    have h3 := M_lt h2
    unfold Datum.order sg
    cases s <;> cases t <;> simp
    · exact (Int.compare_eq_gt.2 (by omega)).symm
    · exact (Int.compare_eq_gt.2 (by omega)).symm
    · exact (Int.compare_eq_lt.2 (by omega)).symm
    · exact (Int.compare_eq_lt.2 (by omega)).symm
  · have h1' : x % SW = INF := by omega
    have h2' : y % SW = INF := by omega
    rw [read_inf h1', read_inf h2', hs, ht, h1', h2']
    have h3 : 0 < M INF := M_pos (by decide)
    unfold Datum.order sg
    generalize M INF = z at *
    cases s <;> cases t <;> simp
    · have e : compare (z : Int) (-(z : Int)) = .gt := Int.compare_eq_gt.2 (by omega)
      rw [e]
      decide
    · have e : compare (-(z : Int)) (z : Int) = .lt := Int.compare_eq_lt.2 (by omega)
      rw [e]
      decide

/-- the key under the sign flip -/
def key (x : Nat) : Nat := if x / SW = 1 then 18446744073709551615 - x else SW + x

theorem K_lt {x y : Nat} (hx : x < 2 * SW) (hy : y < 2 * SW) (h : K x < K y) : key x < key y := by
  unfold K at h
  unfold key
  simp only [SW] at *
  have a1 : x / 9223372036854775808 = 0 ∨ x / 9223372036854775808 = 1 := by omega
  have a2 : y / 9223372036854775808 = 0 ∨ y / 9223372036854775808 = 1 := by omega
  rcases a1 with a1 | a1 <;> rcases a2 with a2 | a2 <;> simp [a1, a2] at h ⊢
  · have := M_lt_iff.1 (by omega : M (x % 9223372036854775808) < M (y % 9223372036854775808))
    omega
  · omega
  · omega
  · have := M_lt_iff.1 (by omega : M (y % 9223372036854775808) < M (x % 9223372036854775808))
    omega

theorem K_eq {x y : Nat} (hx : x < 2 * SW) (hy : y < 2 * SW) (h : K x = K y) (h0 : K x ≠ 0) : x = y := by
  unfold K at h h0
  simp only [SW] at *
  have a1 : x / 9223372036854775808 = 0 ∨ x / 9223372036854775808 = 1 := by omega
  have a2 : y / 9223372036854775808 = 0 ∨ y / 9223372036854775808 = 1 := by omega
  rcases a1 with a1 | a1 <;> rcases a2 with a2 | a2 <;> simp [a1, a2] at h h0
  · have := M_inj (Int.ofNat.inj h)
    omega
  · omega
  · omega
  · have := M_inj (Int.ofNat.inj h)
    omega

theorem K_zero : K 0 = 0 := by decide

end Go.Proofs.Qxb6604355a
