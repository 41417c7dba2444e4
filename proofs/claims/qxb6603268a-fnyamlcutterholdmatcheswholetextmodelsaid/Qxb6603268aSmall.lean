import Derived.Test.Qxb6603268aProg
import Derived.WalkKit
import Derived.WalkSpells
import Derived.WalkLawsBesides
import Derived.Outline
namespace Go.Proofs.Qxb6603268a
open Go.RowKit

theorem hide {p : Prop} (h : p) : Hid p := h
theorem unhide {p : Prop} (h : Hid p) : p := h

/-- the three lengths' sum is at most 2^20 -/
def bytesOk (n1 n2 n3 : Nat) : Bool := decide (n1 + n2 + n3 ≤ 1048576)

theorem bytes_split (o1 o2 o3 : Option Addr) (l1 c1 l2 c2 l3 c3 : Nat) (b n1 n2 : Int) (pd : Bool) (w : World) (h1 : l1 ≤ maxLen) (h2 : l2 ≤ maxLen) (h3 : l3 ≤ maxLen) :
    Calls Try.prog 18 #[.slice o1 l1 c1, .slice o2 l2 c2, .slice o3 l3 c3, .int .u8 b, .int .i64 n1, .int .i64 n2, .bool pd] w fun e w' => e = .returned (.bool (bytesOk l1 l2 l3)) ∧ w' = w := by
  unfold maxLen at h1 h2 h3
  unfold bytesOk
  by_cases a1 : l1 ≤ 1048576
  · by_cases a2 : l1 + l2 ≤ 1048576
    · by_cases a3 : l1 + l2 + l3 ≤ 1048576
      · go_enter Try.func18, Try.ntmps18
        go_wp2
        go_ret
        exact ⟨by simp [a3], rfl⟩
      · by_cases a4 : l3 ≤ 1048576
        all_goals
          go_enter Try.func18, Try.ntmps18
          go_wp2
          go_ret
          exact ⟨by simp [a3], rfl⟩
    · by_cases a4 : l2 ≤ 1048576
      all_goals
        go_enter Try.func18, Try.ntmps18
        go_wp2
        go_ret
        exact ⟨by simp; omega, rfl⟩
  · go_enter Try.func18, Try.ntmps18
    go_wp2
    go_ret
    exact ⟨by simp; omega, rfl⟩
end Go.Proofs.Qxb6603268a
