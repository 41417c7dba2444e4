import Derived.Test.Qxb6604355aProg
import Derived.Test.Qxb6604355aFlo
import Derived.WalkKit
import Derived.WalkSpells
import Derived.WalkLawsBesides
import Derived.Outline
import Derived.OneCell
import Derived.Lib.SliceRun
import Derived.Deep.DeepMust
import Derived.Deep.QuietTactic
import Derived.BigQuiet
import Derived.RegionTactic
import Derived.BigRegion
import Derived.ChangeAlike
import Derived.Deep.CutBlock
import Derived.Laws.Cover2
import Derived.Laws.FloatArith
import Derived.Laws.BitsAllLaws
namespace Go.Proofs.Qxb6604355a
open Go.RowKit
set_option linter.unusedSimpArgs false
set_option linter.unusedVariables false

theorem hide {p : Prop} (h : p) : Hid p := h
theorem unhide {p : Prop} (h : Hid p) : p := h
theorem isz31 : (Try.prog.info? 31).map (·.size) = some 4 := by kernel_rfl

/-- the cells of a value -/
def val (e : Int) (x : Nat) : Array Value := #[.int .u16 e, .int .u64 x, .int .i64 8, .slice none 0 0]

theorem size_alloc (w : World) (b : Obj) : (w.alloc b).heap.size = w.heap.size + 1 := Array.size_push ..
theorem new_alloc (w : World) (b : Obj) : (w.alloc b).heap[w.heap.size]? = some b := Array.getElem?_push_size ..

theorem bits_run (x : Nat) (w : World) : (callFunc 10 #[.float .f64 x]).run Try.prog w = .ok (.value (.int .u64 (x : Int))) w := by
  rw [run_callFunc_extern Try.func10 (by kernel_rfl) (by kernel_rfl) (by kernel_rfl) (e := Extern.MathFloatBits.float64bits) (by kernel_rfl)]
  rfl

theorem float64_any (el : Int) (x : Nat) (w : World) : Calls Try.prog 8 #[.int .u16 el, .float .f64 x] w fun e w' => e = .returned (.agg #[.int .u16 el, .int .u64 x, .int .i64 8, .slice none 0 0]) ∧ Below w.heap.size w w' := by
  have hb := bits_run x
  go_enter Try.func8, Try.ntmps8
  go_wp2
  refine bodyPost_ret (results_cell_row rfl _ _ w.heap.size 31 _ _ _ rfl (new_alloc w _) Try.underlying31 rfl isz31) rfl ⟨rfl, ?_⟩
  exact (Below.refl w.heap.size w).alloc (Nat.le_refl _) _

theorem not64 (x : Nat) (h : x < 18446744073709551616) : 18446744073709551615 ^^^ x = 18446744073709551615 - x := by
  apply Nat.eq_of_testBit_eq
  intro i
  have e : 18446744073709551615 - x = 2 ^ 64 - (x + 1) := by omega
  have e2 : (18446744073709551615 : Nat) = 2 ^ 64 - 1 := by decide
  rw [e, Nat.testBit_two_pow_sub_succ h, Nat.testBit_xor]
  conv => lhs; rw [e2]
  rw [Nat.testBit_two_pow_sub_one]
  by_cases hi : i < 64
  · simp [hi]
  · have : x.testBit i = false := Nat.testBit_lt_two_pow (Nat.lt_of_lt_of_le h (Nat.pow_le_pow_right (by decide) (by omega) : 2 ^ 64 ≤ 2 ^ i))
    simp [hi, this]

theorem key_any (x : Nat) (w : World) (h : x < 2 * SW) : Calls Try.prog 7 #[.int .u64 x] w fun e w' => e = .returned (.int .u64 (key x)) ∧ w' = w := by
  unfold SW at h
  by_cases hs : x / 9223372036854775808 = 1
  · have hs' : ((x : Int) / 9223372036854775808 == 1) = true := by simp; omega
    have hk : key x = 18446744073709551615 - x := by unfold key SW; simp [hs]
    have hx : bits BinOp.xor IntKind.u64 IntKind.u64.max ↑x = (key x : Int) := by
      have e : IntKind.u64.max = ((18446744073709551615 : Nat) : Int) := by decide
      rw [e, u64_xor_nat _ _ (by decide) (by omega), not64 x (by omega), hk]
    clear hk
    generalize key x = y at *
    go_enter Try.func7, Try.ntmps7
    go_wp2
    go_ret
    exact ⟨rfl, rfl⟩
  · have hs' : ((x : Int) / 9223372036854775808 == 1) = false := by simp; omega
    have hk : key x = 9223372036854775808 + x := by unfold key SW; simp [hs]
    have hx : bits BinOp.or IntKind.u64 ↑x 9223372036854775808 = (key x : Int) := by
      have e : (9223372036854775808 : Int) = ((9223372036854775808 : Nat) : Int) := by decide
      rw [e, u64_or_nat _ _ (by omega) (by decide), hk, Nat.or_comm, nat_join 63 _ _ (by decide) (by omega)]
    clear hk
    generalize key x = y at *
    go_enter Try.func7, Try.ntmps7
    go_wp2
    go_ret
    exact ⟨rfl, rfl⟩

/-- what Parameters gives -/
def Pars (x : Nat) (w w' : World) (e : Ending) : Prop := ∃ b, e = .returned (.slice (some ⟨b, 0, none⟩) 1 1) ∧ w.heap.size ≤ b ∧ (∃ t n, w'.heap[b]? = some (.cells (val 311 x) t n)) ∧ Below w.heap.size w w'

theorem parameters_any (x : Nat) (w : World) : Calls Try.prog 5 #[.agg #[.float .f64 x]] w fun e w' => Pars x w w' e := by
  go_enter Try.func5, Try.ntmps5
  go_wp2_with (go_at_call 8; refine (float64_any _ _ _).mono ?_; rintro e w1 ⟨rfl, hb⟩)
  go_ret
  rw [size_alloc] at hb
  have h1 : Below w.heap.size w w1 := ((Below.refl w.heap.size w).alloc (Nat.le_refl _) _).trans (hb.mono (by omega))
  exact ⟨_, rfl, h1.size, ⟨_, _, new_alloc w1 _⟩, h1.alloc h1.size _⟩
end Go.Proofs.Qxb6604355a
