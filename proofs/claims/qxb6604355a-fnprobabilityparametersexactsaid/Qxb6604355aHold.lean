import Derived.Test.Qxb6604355aExa
namespace Go.Proofs.Qxb6604355a
open Go.RowKit
set_option linter.unusedSimpArgs false
set_option linter.unusedVariables false
set_option exponentiation.threshold 3000

/-- the exponent field -/
def ex (x : Nat) : Nat := x / 4503599627370496 % 2048
/-- the fraction field -/
def fr (x : Nat) : Nat := x % 4503599627370496

theorem and_ex (x : Nat) (h : x < 2 * SW) : bits BinOp.and IntKind.u64 ((x : Int) / 4503599627370496) 2047 = (ex x : Int) := by
  have e : ((x : Int) / 4503599627370496) = ((x / 4503599627370496 : Nat) : Int) := by omega
  have e2 : (2047 : Int) = ((2047 : Nat) : Int) := rfl
  unfold SW at h
  rw [e, e2, u64_and_nat _ _ (by omega) (by decide), nat_mask11]
  rfl
theorem and_fr (x : Nat) (h : x < 2 * SW) : bits BinOp.and IntKind.u64 (x : Int) 4503599627370495 = (fr x : Int) := by
  have e2 : (4503599627370495 : Int) = ((4503599627370495 : Nat) : Int) := rfl
  have e3 : (4503599627370495 : Nat) = 2 ^ 52 - 1 := by decide
  unfold SW at h
  rw [e2, u64_and_nat _ _ (by omega) (by decide), e3, Nat.and_two_pow_sub_one_eq_mod]
  rfl
theorem or_fr (m : Nat) (h : m < 4503599627370496) : bits BinOp.or IntKind.u64 (m : Int) 4503599627370496 = ((4503599627370496 + m : Nat) : Int) := by
  have e2 : (4503599627370496 : Int) = ((4503599627370496 : Nat) : Int) := rfl
  rw [e2, u64_or_nat _ _ (by omega) (by decide), Nat.or_comm, nat_join 52 _ _ (by decide) (by omega)]

/-- the answer, nothing turned -/
def Si (w w' : World) (e : Ending) : Prop := e = .returned (.bool true) ∧ w' = w

set_option maxHeartbeats 1000000 in
theorem hold_nan (x : Nat) (hx : x < 2 * SW) (hn : INF < x % SW) (w : World) : Calls Try.prog 6 #[.int .u64 x, .float .f64 x] w fun e w' => Si w w' e := by
  have a1 := and_ex x hx
  have a2 := and_fr x hx
  have e1 : ex x = 2047 := by unfold ex; unfold INF SW at *; omega
  have e2 : ((fr x : Int) != 0) = true := by
    have : fr x ≠ 0 := by unfold fr; unfold INF SW at *; omega
    simp
    omega
  have e3 : (FloatKind.f64.format.order x x != some .eq) = true := by rw [f64_order, order_nan_l x hn]; rfl
  rw [e1] at a1
  generalize fr x = m at *
  clear hn e1 hx
  go_enter Try.func6, Try.ntmps6
  go_wp2
  go_ret
  exact ⟨by rw [← e2]; rfl, rfl⟩

set_option maxHeartbeats 1000000 in
theorem hold_inf (x : Nat) (hx : x < 2 * SW) (hn : x % SW = INF) (w : World) : Calls Try.prog 6 #[.int .u64 x, .float .f64 x] w fun e w' => Si w w' e := by
  have a1 := and_ex x hx
  have a2 := and_fr x hx
  have e1 : ex x = 2047 := by unfold ex; unfold INF SW at *; omega
  have e2 : fr x = 0 := by unfold fr; unfold INF SW at *; omega
  have e3 : (FloatKind.f64.format.order x x != some .eq) = false := by
    rw [f64_order, order_K x x (by omega) (by omega), Int.compare_eq_eq.2 rfl]
    rfl
  rw [e1] at a1
  rw [e2] at a2
  by_cases hs : x / 9223372036854775808 = 1
  · have hs' : ((x : Int) / 9223372036854775808 == 1) = true := by simp; omega
    have e4 : (FloatKind.f64.format.order x 18442240474082181119 == some .lt) = true := by
      have : x = 18442240474082181120 := by unfold INF SW at *; omega
      subst this
      decide +kernel
    clear hn e1 hx hs e2
    go_enter Try.func6, Try.ntmps6
    go_wp2
    go_ret
    exact ⟨rfl, rfl⟩
  · have hs' : ((x : Int) / 9223372036854775808 == 1) = false := by simp; omega
    have e4 : (FloatKind.f64.format.order x 9218868437227405311 == some .gt) = true := by
      have : x = 9218868437227405312 := by unfold INF SW at *; omega
      subst this
      decide +kernel
    clear hn e1 hx hs e2
    go_enter Try.func6, Try.ntmps6
    go_wp2
    go_ret
    exact ⟨rfl, rfl⟩

set_option maxHeartbeats 2000000 in
theorem hold_high (x : Nat) (hx : x < 2 * SW) (hn : x % SW < INF) (hb : B ≤ x % SW) (w : World) : Calls Try.prog 6 #[.int .u64 x, .float .f64 x] w fun e w' => Si w w' e := by
  have a1 := and_ex x hx
  have a2 := and_fr x hx
  have a3 := or_fr (fr x) (Nat.mod_lt _ (by decide))
  have f1 : ex x = x % SW / B := by unfold ex; unfold INF SW B at *; omega
  have f2 : 4503599627370496 + fr x = B + x % SW % B := by unfold fr; unfold INF SW B at *; omega
  have hf := fit_high (x % SW) hb hn
  rw [← f1, ← f2] at hf
  have g1 : 1 ≤ ex x ∧ ex x < 2047 := by unfold ex; unfold INF SW B at *; omega
  have e1 : ((ex x : Int) == 2047) = false := by simp; omega
  have e2 : ((ex x : Int) == 0) = false := by simp; omega
  have e3 : (FloatKind.f64.format.order x x != some .eq) = false := by
    rw [f64_order, order_K x x (by omega) (by omega), Int.compare_eq_eq.2 rfl]
    rfl
  have e5 : (FloatKind.f64.format.order x 0 == some .eq) = false := by
    have h0 : K x ≠ 0 := by
      have := M_pos (r := x % SW) (by unfold B at *; omega)
      unfold K
      split <;> omega
    rw [f64_order, order_K x 0 (by omega) (by decide), K_zero]
    have : compare (K x) 0 ≠ .eq := fun e => h0 (Int.compare_eq_eq.1 e)
    generalize compare (K x) 0 = c at *
    cases c <;> simp_all
  have hst := Inv.start hf
  generalize ex x = e at *
  generalize hr : x % SW = r at *
  generalize 4503599627370496 + fr x = mm at *
  generalize fr x = m at *
  clear hn hb f1 f2
  by_cases hs : x / 9223372036854775808 = 1
  · have hs' : ((x : Int) / 9223372036854775808 == 1) = true := by simp; omega
    go_enter Try.func6, Try.ntmps6
    go_wp2
    go_loop [8, 9] (fun z i => ∃ (v : Nat) (k : Int), z = .float .f64 v ∧ i = .int .i64 k ∧ Inv mm ((e : Int) - 1075) v k) (fun _ i => (intOf i).toNat)
    case atStart => exact ⟨_, _, rfl, rfl, hst⟩
    case round =>
      obtain ⟨v, k, rfl, rfl, hi⟩ := hrel
      have hbd := hi.bounds hf
      by_cases hk : 0 < k
      · obtain ⟨v', hm, hi'⟩ := hi.up hf hk
        have hrun := fun w : World => run_float_arith (P := Try.prog) w .mul 22 .f64 v 4611686018427387904 v' hm
        have hk' : decide (0 < k) = true := decide_eq_true hk
        clear hi hst
        go_wp2
        go_round
        case rel => exact ⟨v', k - 1, rfl, by go_num, hi'⟩
        case measure => simp [intOf]; omega
      · have hk' : decide (0 < k) = false := decide_eq_false hk
        clear hst
        go_wp2
        go_loop [8, 9] (fun z i => ∃ (v : Nat) (k : Int), z = .float .f64 v ∧ i = .int .i64 k ∧ k ≤ 0 ∧ Inv mm ((e : Int) - 1075) v k) (fun _ i => (-(intOf i)).toNat)
        case atStart => exact ⟨_, _, rfl, rfl, by omega, hi⟩
        case round =>
          clear hi hk hk' hbd
          obtain ⟨v2, k2, rfl, rfl, hk0, hi⟩ := hrel
          have hbd := hi.bounds hf
          by_cases hk : k2 < 0
          · obtain ⟨v', hm, hi'⟩ := hi.down hf hk
            have hrun := fun w : World => run_float_arith (P := Try.prog) w .mul 22 .f64 v2 4602678819172646912 v' hm
            have hk' : decide (k2 < 0) = true := decide_eq_true hk
            clear hi
            go_wp2
            go_round
            case rel => exact ⟨v', k2 + 1, rfl, by go_num, by omega, hi'⟩
            case measure => simp [intOf]; omega
          · obtain rfl : k2 = 0 := by omega
            have hv := hi.done hf
            have hng0 : Op.negFloat .f64 v2 = x := by rw [neg_word v2 (by omega)]; unfold SW at *; omega
            have hng : ∀ w : World, (Op.unary .neg (.float .f64 v2)).run Try.prog w = .ok (.float .f64 x) w := fun w => by rw [← hng0]; rfl
            clear hng0
            clear hi hf hk0 hk hbd hv hr
            go_wp2
            go_ret
            exact ⟨rfl, rfl⟩
  · have hs' : ((x : Int) / 9223372036854775808 == 1) = false := by simp; omega
    go_enter Try.func6, Try.ntmps6
    go_wp2
    go_loop [8, 9] (fun z i => ∃ (v : Nat) (k : Int), z = .float .f64 v ∧ i = .int .i64 k ∧ Inv mm ((e : Int) - 1075) v k) (fun _ i => (intOf i).toNat)
    case atStart => exact ⟨_, _, rfl, rfl, hst⟩
    case round =>
      obtain ⟨v, k, rfl, rfl, hi⟩ := hrel
      have hbd := hi.bounds hf
      by_cases hk : 0 < k
      · obtain ⟨v', hm, hi'⟩ := hi.up hf hk
        have hrun := fun w : World => run_float_arith (P := Try.prog) w .mul 22 .f64 v 4611686018427387904 v' hm
        have hk' : decide (0 < k) = true := decide_eq_true hk
        clear hi hst
        go_wp2
        go_round
        case rel => exact ⟨v', k - 1, rfl, by go_num, hi'⟩
        case measure => simp [intOf]; omega
      · have hk' : decide (0 < k) = false := decide_eq_false hk
        clear hst
        go_wp2
        go_loop [8, 9] (fun z i => ∃ (v : Nat) (k : Int), z = .float .f64 v ∧ i = .int .i64 k ∧ k ≤ 0 ∧ Inv mm ((e : Int) - 1075) v k) (fun _ i => (-(intOf i)).toNat)
        case atStart => exact ⟨_, _, rfl, rfl, by omega, hi⟩
        case round =>
          clear hi hk hk' hbd
          obtain ⟨v2, k2, rfl, rfl, hk0, hi⟩ := hrel
          have hbd := hi.bounds hf
          by_cases hk : k2 < 0
          · obtain ⟨v', hm, hi'⟩ := hi.down hf hk
            have hrun := fun w : World => run_float_arith (P := Try.prog) w .mul 22 .f64 v2 4602678819172646912 v' hm
            have hk' : decide (k2 < 0) = true := decide_eq_true hk
            clear hi
            go_wp2
            go_round
            case rel => exact ⟨v', k2 + 1, rfl, by go_num, by omega, hi'⟩
            case measure => simp [intOf]; omega
          · obtain rfl : k2 = 0 := by omega
            have hv := hi.done hf
            obtain rfl : v2 = x := by unfold SW at *; omega
            clear hi hf hk0 hk hbd hv hr
            go_wp2
            go_ret
            exact ⟨rfl, rfl⟩

set_option maxHeartbeats 2000000 in
theorem hold_low (x : Nat) (hx : x < 2 * SW) (hb : x % SW < B) (hz : 0 < x % SW) (w : World) : Calls Try.prog 6 #[.int .u64 x, .float .f64 x] w fun e w' => Si w w' e := by
  have a1 := and_ex x hx
  have a2 := and_fr x hx
  have f1 : ex x = 0 := by unfold ex; unfold SW B at *; omega
  have f2 : fr x = x % SW := by unfold fr; unfold SW B at *; omega
  have hf := fit_low (x % SW) hb
  rw [f1] at a1
  rw [f2] at a2
  have hB : x % SW ≤ INF := by unfold INF SW B at *; omega
  have e3 : (FloatKind.f64.format.order x x != some .eq) = false := by
    rw [f64_order, order_K x x hB hB, Int.compare_eq_eq.2 rfl]
    rfl
  have e5 : (FloatKind.f64.format.order x 0 == some .eq) = false := by
    have h0 : K x ≠ 0 := by
      have := M_pos (r := x % SW) hz
      unfold K
      split <;> omega
    rw [f64_order, order_K x 0 hB (by decide), K_zero]
    have : compare (K x) 0 ≠ .eq := fun e => h0 (Int.compare_eq_eq.1 e)
    generalize compare (K x) 0 = c at *
    cases c <;> simp_all
  have hst := Inv.start hf
  generalize hr : x % SW = r at *
  clear f1 f2 hB
  by_cases hs : x / 9223372036854775808 = 1
  · have hs' : ((x : Int) / 9223372036854775808 == 1) = true := by simp; omega
    go_enter Try.func6, Try.ntmps6
    go_wp2
    go_loop [8, 9] (fun z i => ∃ (v : Nat) (k : Int), z = .float .f64 v ∧ i = .int .i64 k ∧ Inv r (-1074) v k) (fun _ i => (intOf i).toNat)
    case atStart => exact ⟨_, _, rfl, rfl, hst⟩
    case round =>
      obtain ⟨v, k, rfl, rfl, hi⟩ := hrel
      have hbd := hi.bounds hf
      by_cases hk : 0 < k
      · obtain ⟨v', hm, hi'⟩ := hi.up hf hk
        have hrun := fun w : World => run_float_arith (P := Try.prog) w .mul 22 .f64 v 4611686018427387904 v' hm
        have hk' : decide (0 < k) = true := decide_eq_true hk
        clear hi hst
        go_wp2
        go_round
        case rel => exact ⟨v', k - 1, rfl, by go_num, hi'⟩
        case measure => simp [intOf]; omega
      · have hk' : decide (0 < k) = false := decide_eq_false hk
        clear hst
        go_wp2
        go_loop [8, 9] (fun z i => ∃ (v : Nat) (k : Int), z = .float .f64 v ∧ i = .int .i64 k ∧ k ≤ 0 ∧ Inv r (-1074) v k) (fun _ i => (-(intOf i)).toNat)
        case atStart => exact ⟨_, _, rfl, rfl, by omega, hi⟩
        case round =>
          clear hi hk hk' hbd
          obtain ⟨v2, k2, rfl, rfl, hk0, hi⟩ := hrel
          have hbd := hi.bounds hf
          by_cases hk : k2 < 0
          · obtain ⟨v', hm, hi'⟩ := hi.down hf hk
            have hrun := fun w : World => run_float_arith (P := Try.prog) w .mul 22 .f64 v2 4602678819172646912 v' hm
            have hk' : decide (k2 < 0) = true := decide_eq_true hk
            clear hi
            go_wp2
            go_round
            case rel => exact ⟨v', k2 + 1, rfl, by go_num, by omega, hi'⟩
            case measure => simp [intOf]; omega
          · obtain rfl : k2 = 0 := by omega
            have hv := hi.done hf
            have hng0 : Op.negFloat .f64 v2 = x := by rw [neg_word v2 (by omega)]; unfold SW at *; omega
            have hng : ∀ w : World, (Op.unary .neg (.float .f64 v2)).run Try.prog w = .ok (.float .f64 x) w := fun w => by rw [← hng0]; rfl
            clear hng0
            clear hi hf hk0 hk hbd hv hr
            go_wp2
            go_ret
            exact ⟨rfl, rfl⟩
  · have hs' : ((x : Int) / 9223372036854775808 == 1) = false := by simp; omega
    go_enter Try.func6, Try.ntmps6
    go_wp2
    go_loop [8, 9] (fun z i => ∃ (v : Nat) (k : Int), z = .float .f64 v ∧ i = .int .i64 k ∧ Inv r (-1074) v k) (fun _ i => (intOf i).toNat)
    case atStart => exact ⟨_, _, rfl, rfl, hst⟩
    case round =>
      obtain ⟨v, k, rfl, rfl, hi⟩ := hrel
      have hbd := hi.bounds hf
      by_cases hk : 0 < k
      · obtain ⟨v', hm, hi'⟩ := hi.up hf hk
        have hrun := fun w : World => run_float_arith (P := Try.prog) w .mul 22 .f64 v 4611686018427387904 v' hm
        have hk' : decide (0 < k) = true := decide_eq_true hk
        clear hi hst
        go_wp2
        go_round
        case rel => exact ⟨v', k - 1, rfl, by go_num, hi'⟩
        case measure => simp [intOf]; omega
      · have hk' : decide (0 < k) = false := decide_eq_false hk
        clear hst
        go_wp2
        go_loop [8, 9] (fun z i => ∃ (v : Nat) (k : Int), z = .float .f64 v ∧ i = .int .i64 k ∧ k ≤ 0 ∧ Inv r (-1074) v k) (fun _ i => (-(intOf i)).toNat)
        case atStart => exact ⟨_, _, rfl, rfl, by omega, hi⟩
        case round =>
          clear hi hk hk' hbd
          obtain ⟨v2, k2, rfl, rfl, hk0, hi⟩ := hrel
          have hbd := hi.bounds hf
          by_cases hk : k2 < 0
          · obtain ⟨v', hm, hi'⟩ := hi.down hf hk
            have hrun := fun w : World => run_float_arith (P := Try.prog) w .mul 22 .f64 v2 4602678819172646912 v' hm
            have hk' : decide (k2 < 0) = true := decide_eq_true hk
            clear hi
            go_wp2
            go_round
            case rel => exact ⟨v', k2 + 1, rfl, by go_num, by omega, hi'⟩
            case measure => simp [intOf]; omega
          · obtain rfl : k2 = 0 := by omega
            have hv := hi.done hf
            obtain rfl : v2 = x := by unfold SW at *; omega
            clear hi hf hk0 hk hbd hv hr
            go_wp2
            go_ret
            exact ⟨rfl, rfl⟩

set_option maxHeartbeats 2000000 in
theorem hold_zero (x : Nat) (hx : x < 2 * SW) (hb : x % SW < B) (hz : x % SW = 0) (w : World) : Calls Try.prog 6 #[.int .u64 x, .float .f64 x] w fun e w' => Si w w' e := by
  have a1 := and_ex x hx
  have a2 := and_fr x hx
  have f1 : ex x = 0 := by unfold ex; unfold SW B at *; omega
  have f2 : fr x = x % SW := by unfold fr; unfold SW B at *; omega
  have hf := fit_low (x % SW) hb
  rw [f1] at a1
  rw [f2] at a2
  have hB : x % SW ≤ INF := by unfold INF SW B at *; omega
  have e3 : (FloatKind.f64.format.order x x != some .eq) = false := by
    rw [f64_order, order_K x x hB hB, Int.compare_eq_eq.2 rfl]
    rfl
  have e5 : (FloatKind.f64.format.order x 0 == some .eq) = true := by
    have h0 : K x = 0 := by
      unfold K
      rw [hz, M_zero]
      split <;> rfl
    rw [f64_order, order_K x 0 hB (by decide), K_zero, Int.compare_eq_eq.2 h0]
    rfl
  have hst := Inv.start hf
  generalize hr : x % SW = r at *
  clear f1 f2 hB
  by_cases hs : x / 9223372036854775808 = 1
  · have hs' : ((x : Int) / 9223372036854775808 == 1) = true := by simp; omega
    have h9 : ∀ w : World, Calls Try.prog 9 #[.float .f64 x] w fun e w' => e = .returned (.bool true) ∧ w' = w := fun w => by
      have hx0 : x = 9223372036854775808 := by unfold SW at *; omega
      rw [hx0]
      exact neg_zero_minus w
    clear hz
    go_enter Try.func6, Try.ntmps6
    go_wp2
    go_loop [8, 9] (fun z i => ∃ (v : Nat) (k : Int), z = .float .f64 v ∧ i = .int .i64 k ∧ Inv r (-1074) v k) (fun _ i => (intOf i).toNat)
    case atStart => exact ⟨_, _, rfl, rfl, hst⟩
    case round =>
      obtain ⟨v, k, rfl, rfl, hi⟩ := hrel
      have hbd := hi.bounds hf
      by_cases hk : 0 < k
      · obtain ⟨v', hm, hi'⟩ := hi.up hf hk
        have hrun := fun w : World => run_float_arith (P := Try.prog) w .mul 22 .f64 v 4611686018427387904 v' hm
        have hk' : decide (0 < k) = true := decide_eq_true hk
        clear hi hst
        go_wp2
        go_round
        case rel => exact ⟨v', k - 1, rfl, by go_num, hi'⟩
        case measure => simp [intOf]; omega
      · have hk' : decide (0 < k) = false := decide_eq_false hk
        clear hst
        go_wp2
        go_loop [8, 9] (fun z i => ∃ (v : Nat) (k : Int), z = .float .f64 v ∧ i = .int .i64 k ∧ k ≤ 0 ∧ Inv r (-1074) v k) (fun _ i => (-(intOf i)).toNat)
        case atStart => exact ⟨_, _, rfl, rfl, by omega, hi⟩
        case round =>
          clear hi hk hk' hbd
          obtain ⟨v2, k2, rfl, rfl, hk0, hi⟩ := hrel
          have hbd := hi.bounds hf
          by_cases hk : k2 < 0
          · obtain ⟨v', hm, hi'⟩ := hi.down hf hk
            have hrun := fun w : World => run_float_arith (P := Try.prog) w .mul 22 .f64 v2 4602678819172646912 v' hm
            have hk' : decide (k2 < 0) = true := decide_eq_true hk
            clear hi
            go_wp2
            go_round
            case rel => exact ⟨v', k2 + 1, rfl, by go_num, by omega, hi'⟩
            case measure => simp [intOf]; omega
          · obtain rfl : k2 = 0 := by omega
            have hv := hi.done hf
            have hng0 : Op.negFloat .f64 v2 = x := by rw [neg_word v2 (by omega)]; unfold SW at *; omega
            have hng : ∀ w : World, (Op.unary .neg (.float .f64 v2)).run Try.prog w = .ok (.float .f64 x) w := fun w => by rw [← hng0]; rfl
            clear hng0
            clear hi hf hk0 hk hbd hv hr
            go_wp2_with (go_at_call 9; refine (h9 _).mono ?_; rintro e w' ⟨rfl, rfl⟩)
            go_ret
            exact ⟨rfl, rfl⟩
  · have hs' : ((x : Int) / 9223372036854775808 == 1) = false := by simp; omega
    have h9 : ∀ w : World, Calls Try.prog 9 #[.float .f64 x] w fun e w' => e = .returned (.bool false) ∧ w' = w := fun w => by
      have hx0 : x = 0 := by unfold SW at *; omega
      rw [hx0]
      exact neg_zero_plus w
    clear hz
    go_enter Try.func6, Try.ntmps6
    go_wp2
    go_loop [8, 9] (fun z i => ∃ (v : Nat) (k : Int), z = .float .f64 v ∧ i = .int .i64 k ∧ Inv r (-1074) v k) (fun _ i => (intOf i).toNat)
    case atStart => exact ⟨_, _, rfl, rfl, hst⟩
    case round =>
      obtain ⟨v, k, rfl, rfl, hi⟩ := hrel
      have hbd := hi.bounds hf
      by_cases hk : 0 < k
      · obtain ⟨v', hm, hi'⟩ := hi.up hf hk
        have hrun := fun w : World => run_float_arith (P := Try.prog) w .mul 22 .f64 v 4611686018427387904 v' hm
        have hk' : decide (0 < k) = true := decide_eq_true hk
        clear hi hst
        go_wp2
        go_round
        case rel => exact ⟨v', k - 1, rfl, by go_num, hi'⟩
        case measure => simp [intOf]; omega
      · have hk' : decide (0 < k) = false := decide_eq_false hk
        clear hst
        go_wp2
        go_loop [8, 9] (fun z i => ∃ (v : Nat) (k : Int), z = .float .f64 v ∧ i = .int .i64 k ∧ k ≤ 0 ∧ Inv r (-1074) v k) (fun _ i => (-(intOf i)).toNat)
        case atStart => exact ⟨_, _, rfl, rfl, by omega, hi⟩
        case round =>
          clear hi hk hk' hbd
          obtain ⟨v2, k2, rfl, rfl, hk0, hi⟩ := hrel
          have hbd := hi.bounds hf
          by_cases hk : k2 < 0
          · obtain ⟨v', hm, hi'⟩ := hi.down hf hk
            have hrun := fun w : World => run_float_arith (P := Try.prog) w .mul 22 .f64 v2 4602678819172646912 v' hm
            have hk' : decide (k2 < 0) = true := decide_eq_true hk
            clear hi
            go_wp2
            go_round
            case rel => exact ⟨v', k2 + 1, rfl, by go_num, by omega, hi'⟩
            case measure => simp [intOf]; omega
          · obtain rfl : k2 = 0 := by omega
            have hv := hi.done hf
            obtain rfl : v2 = x := by unfold SW at *; omega
            clear hi hf hk0 hk hbd hv hr
            go_wp2_with (go_at_call 9; refine (h9 _).mono ?_; rintro e w' ⟨rfl, rfl⟩)
            go_ret
            exact ⟨rfl, rfl⟩

theorem hold_any (x : Nat) (hx : x < 2 * SW) (w : World) : Calls Try.prog 6 #[.int .u64 x, .float .f64 x] w fun e w' => Si w w' e := by
  rcases Nat.lt_trichotomy INF (x % SW) with h | h | h
  · exact hold_nan x hx h w
  · exact hold_inf x hx h.symm w
  · rcases Nat.lt_or_ge (x % SW) B with h' | h'
    · rcases Nat.eq_zero_or_pos (x % SW) with h0 | h0
      · exact hold_zero x hx h' h0 w
      · exact hold_low x hx h' h0 w
    · exact hold_high x hx h h' w
end Go.Proofs.Qxb6604355a
