import Derived.Test.Qxb6603393aBase
namespace Go.Proofs.Qxb6603393a
open Go.RowKit
set_option linter.unusedSimpArgs false
set_option linter.unusedVariables false

def MsgOk (n : Int) (L : Nat) (m : CM) : Prop := 0 ≤ m.sender ∧ m.sender ≤ n ∧ ∀ q ∈ m.halt, 0 ≤ q ∧ q < L
/-- what crashOutside answers -/
def OutSays (n : Int) (L : Nat) (ms : List CM) (e : Ending) : Prop :=
  ∃ r, e = .returned (.bool r) ∧ (r = false → 0 ≤ n ∧ n ≤ 65536 ∧ n + 1 ≤ L ∧ ∀ i (h : i < ms.length), MsgOk n L ms[i])
theorem OutSays.yes (n : Int) (L : Nat) (ms : List CM) : OutSays n L ms (.returned (.bool true)) := ⟨true, rfl, fun h => by cases h⟩

set_option maxHeartbeats 2000000 in
theorem outside_any (n : Int) (o1 o2 : Option Addr) (l1 c1 c2 : Nat) (ms : List CM) (w : World) (h1 : l1 ≤ 1048576) (h2 : ms.length ≤ 65536) (hn : -9223372036854775808 ≤ n ∧ n ≤ 9223372036854775807) (hm : MsgsAt w o2 ms) :
    Calls Try.prog 14 #[.int .i64 n, .slice o1 l1 c1, .slice o2 ms.length c2] w fun e w' => w = w' ∧ OutSays n l1 ms e := by
  have HM := hide hm
  clear hm
  by_cases n0 : n < 0
  · have n0' : decide (n < 0) = true := decide_eq_true n0
    go_enter Try.func14, Try.ntmps14
    go_wp2
    go_ret
    exact ⟨rfl, OutSays.yes _ _ _⟩
  have n0' : decide (n < 0) = false := decide_eq_false n0
  by_cases n1 : 65536 < n
  · have n1' : decide (65536 < n) = true := decide_eq_true n1
    go_enter Try.func14, Try.ntmps14
    go_wp2
    go_ret
    exact ⟨rfl, OutSays.yes _ _ _⟩
  have n1' : decide (65536 < n) = false := decide_eq_false n1
  by_cases n2 : (l1 : Int) < n + 1
  · have n2' : decide ((l1 : Int) < n + 1) = true := decide_eq_true n2
    go_enter Try.func14, Try.ntmps14
    go_wp2
    go_ret
    exact ⟨rfl, OutSays.yes _ _ _⟩
  have n2' : decide ((l1 : Int) < n + 1) = false := decide_eq_false n2
  go_enter Try.func14, Try.ntmps14
  go_wp2
  go_loop [25] (fun i => ∃ k : Nat, k ≤ ms.length ∧ i = .int .i64 k ∧ Hid (∀ i (h : i < ms.length), i < k → MsgOk n l1 ms[i])) (fun i => ms.length - (intOf i).toNat)
  case atStart => exact ⟨0, Nat.zero_le _, rfl, fun i h h' => by omega⟩
  case round =>
    obtain ⟨k, hk, rfl, HR⟩ := hrel
    by_cases hlt : k < ms.length
    · obtain ⟨b, off, e, q1, q2, hsrc, hl⟩ := unhide HM k hlt
      subst e
      have HSRC := hide hsrc
      have hkl : (k : Int) < (ms.length : Int) := by omega
      have hstep : ∀ (hs : 0 ≤ ms[k].sender ∧ ms[k].sender ≤ n) (hh : ∀ j, j < ms[k].halt.length → 0 ≤ ms[k].halt.getD j 0 ∧ ms[k].halt.getD j 0 < l1), ∀ i (h : i < ms.length), i < k + 1 → MsgOk n l1 ms[i] := fun hs hh i h hi => by
        by_cases e : i = k
        · subst e
          refine ⟨hs.1, hs.2, fun q hq => ?_⟩
          obtain ⟨j, hj, rfl⟩ := List.getElem_of_mem hq
          have := hh j hj
          simpa [hj] using this
        · exact unhide HR i h (by omega)
      have HSTEP := hide hstep
      clear hsrc hstep
      generalize ms[k].sender = sd at *
      generalize ms[k].halt = hs at *
      generalize ms[k].o = oh at *
      generalize ms[k].cap = ch at *
      unfold maxLen at hl
      by_cases s0 : sd < 0
      · have s0' : decide (sd < 0) = true := decide_eq_true s0
        go_wp2
        go_ret
        exact ⟨rfl, OutSays.yes _ _ _⟩
      have s0' : decide (sd < 0) = false := decide_eq_false s0
      by_cases s1 : n < sd
      · have s1' : decide (n < sd) = true := decide_eq_true s1
        go_wp2
        go_ret
        exact ⟨rfl, OutSays.yes _ _ _⟩
      have s1' : decide (n < sd) = false := decide_eq_false s1
      go_wp2
      go_loop [49] (fun i => ∃ j : Nat, j ≤ hs.length ∧ i = .int .i64 j ∧ Hid (∀ x, x < j → 0 ≤ hs.getD x 0 ∧ hs.getD x 0 < l1)) (fun i => hs.length - (intOf i).toNat)
      case atStart => exact ⟨0, Nat.zero_le _, rfl, fun x h => by omega⟩
      case round =>
        obtain ⟨j, hj, rfl, HJ⟩ := hrel
        by_cases hlt2 : j < hs.length
        · obtain ⟨g, f, e, k3⟩ := unhide HSRC j (.int .i64 (hs.getD j 0)) (by simp [hlt2])
          subst e
          have hjl : (j : Int) < (hs.length : Int) := by omega
          have hnext : ∀ (ha : 0 ≤ hs.getD j 0 ∧ hs.getD j 0 < l1), ∀ x, x < j + 1 → 0 ≤ hs.getD x 0 ∧ hs.getD x 0 < l1 := fun ha x hx => by
            by_cases e : x = j
            · subst e; exact ha
            · exact unhide HJ x (by omega)
          have HN := hide hnext
          clear hnext
          generalize hs.getD j 0 = q at *
          by_cases r0 : q < 0
          · have r0' : decide (q < 0) = true := decide_eq_true r0
            go_wp2
            go_ret
            exact ⟨rfl, OutSays.yes _ _ _⟩
          have r0' : decide (q < 0) = false := decide_eq_false r0
          by_cases r1 : (l1 : Int) ≤ q
          · have r1' : decide ((l1 : Int) ≤ q) = true := decide_eq_true r1
            go_wp2
            go_ret
            exact ⟨rfl, OutSays.yes _ _ _⟩
          have r1' : decide ((l1 : Int) ≤ q) = false := decide_eq_false r1
          go_wp2
          go_round
          case rel => exact ⟨j + 1, by omega, by go_num, unhide HN ⟨by omega, by omega⟩⟩
          case measure => simp [intOf]; omega
        · have hjj : j = hs.length := by omega
          have HJJ := hide hjj
          clear hjj
          go_wp2
          go_round
          case rel => exact ⟨k + 1, by omega, by go_num, unhide HSTEP ⟨by omega, by omega⟩ (fun x hx => unhide HJ x (by rw [unhide HJJ]; exact hx))⟩
          case measure => simp [intOf]; omega
    · go_wp2
      go_ret
      exact ⟨rfl, false, rfl, fun _ => ⟨by omega, by omega, by omega, fun i h => unhide HR i h (by omega)⟩⟩

/-- how many of the first k are true -/
def cntTo (xs : List Bool) : Nat → Nat
  | 0 => 0
  | k + 1 => cntTo xs k + (if xs.getD k false then 1 else 0)
theorem cntTo_le (xs : List Bool) : ∀ k, cntTo xs k ≤ k
  | 0 => Nat.le_refl _
  | k + 1 => by have := cntTo_le xs k; simp only [cntTo]; split <;> omega
def cnt (xs : List Bool) : Nat := cntTo xs xs.length

set_option maxHeartbeats 1000000 in
theorem trueCount_any (o : Option Addr) (c : Nat) (xs : List Bool) (w : World) (hlen : xs.length ≤ 1048576) (hs : Src w o (xs.map Value.bool)) :
    Calls Try.prog 19 #[.slice o xs.length c] w fun e w' => e = .returned (.int .i64 (cnt xs)) ∧ w = w' := by
  have HS := hide hs
  clear hs
  unfold cnt
  go_enter Try.func19, Try.ntmps19
  go_wp2
  go_loop [3, 7] (fun t i => ∃ k : Nat, k ≤ xs.length ∧ i = .int .i64 k ∧ t = .int .i64 (cntTo xs k)) (fun _ i => xs.length - (intOf i).toNat)
  case atStart => exact ⟨0, Nat.zero_le _, rfl, rfl⟩
  case round =>
    obtain ⟨k, hk, rfl, rfl⟩ := hrel
    have hle := cntTo_le xs k
    by_cases hlt : k < xs.length
    · obtain ⟨b, off, e, k3⟩ := unhide HS k (.bool (xs.getD k false)) (by simp [hlt])
      subst e
      have hst : cntTo xs (k + 1) = cntTo xs k + (if xs.getD k false then 1 else 0) := rfl
      have HST := hide hst
      clear hst
      have hkl : (k : Int) < (xs.length : Int) := by omega
      generalize xs.getD k false = x at *
      cases x
      · go_wp2
        go_round
        case rel => exact ⟨k + 1, by omega, by go_num, by rw [unhide HST]; simp⟩
        case measure => simp [intOf]; omega
      · go_wp2
        go_round
        case rel => exact ⟨k + 1, by omega, by go_num, by rw [unhide HST]; simp⟩
        case measure => simp [intOf]; omega
    · obtain rfl : k = xs.length := by omega
      go_wp2
      go_ret
      exact ⟨rfl, rfl⟩
end Go.Proofs.Qxb6603393a
