import Derived.Test.Qxb6603393aProg
import Derived.WalkKit
import Derived.WalkSpells
import Derived.WalkLawsBesides
import Derived.Outline
import Derived.OneCell
import Derived.Lib.SliceRun
import Derived.Deep.DeepMust
import Derived.Deep.QuietTactic
import Derived.BigQuiet
import Derived.RegionTactic
import Derived.BigRegion
import Derived.ChangeAlike
import Derived.Deep.CutBlock
namespace Go.Proofs.Qxb6603393a
open Go.RowKit
set_option linter.unusedSimpArgs false
set_option linter.unusedVariables false

theorem hide {p : Prop} (h : p) : Hid p := h
theorem unhide {p : Prop} (h : Hid p) : p := h

/-- the slice that begins at o holds the values xs -/
def Src (w : World) (o : Option Addr) (xs : List Value) : Prop := ∀ j u, xs[j]? = some u → ∃ b off, o = some ⟨b, off, none⟩ ∧ w.cell? ⟨b, off + j, none⟩ = some u
theorem Src.below {w w' : World} {o : Option Addr} {xs : List Value} (h : Src w o xs) (hb : Below w.heap.size w w') : Src w' o xs := fun j u hj => by
  obtain ⟨b, off, e, hc⟩ := h j u hj
  exact ⟨b, off, e, (hb.cell (World.block_lt_of_cell? w _ hc)).trans hc⟩

def SomeBool (e : Ending) : Prop := ∃ ok, e = .returned (.bool ok)
def SomeInt (e : Ending) : Prop := ∃ t, e = .returned (.int .i64 t)

/-- one message of the argument -/
structure CM where
  sender : Int
  o : Option Addr
  cap : Nat
  halt : List Int

/-- the messages lie at o -/
def MsgsAt (w : World) (o : Option Addr) (ms : List CM) : Prop := ∀ i (h : i < ms.length), ∃ b off, o = some ⟨b, off, none⟩ ∧ w.cell? ⟨b, off + i * 2, none⟩ = some (.int .i64 ms[i].sender) ∧
  w.cell? ⟨b, off + i * 2 + 1, none⟩ = some (.slice ms[i].o ms[i].halt.length ms[i].cap) ∧ Src w ms[i].o (ms[i].halt.map (Value.int .i64)) ∧ ms[i].halt.length ≤ maxLen
theorem MsgsAt.below {w w' : World} {o : Option Addr} {ms : List CM} (h : MsgsAt w o ms) (hb : Below w.heap.size w w') : MsgsAt w' o ms := fun i hi => by
  obtain ⟨b, off, e, h1, h2, h3, h4⟩ := h i hi
  exact ⟨b, off, e, (hb.cell (World.block_lt_of_cell? w _ h1)).trans h1, (hb.cell (World.block_lt_of_cell? w _ h2)).trans h2, h3.below hb, h4⟩

set_option maxHeartbeats 1000000 in
theorem bytes_any (n count r : Int) (o1 o2 : Option Addr) (l1 c1 c2 : Nat) (ms : List CM) (w : World) (h1 : l1 ≤ maxLen) (h2 : ms.length ≤ maxLen) (hm : MsgsAt w o2 ms) :
    Calls Try.prog 18 #[.int .i64 n, .slice o1 l1 c1, .int .i64 count, .int .i64 r, .slice o2 ms.length c2] w fun e w' => w = w' ∧ SomeBool e := by
  have HM := hide hm
  clear hm
  unfold maxLen at h1 h2
  by_cases a1 : l1 ≤ 1048576
  case neg =>
    go_enter Try.func18, Try.ntmps18
    go_wp2
    go_ret
    exact ⟨rfl, _, rfl⟩
  by_cases a2 : ms.length ≤ 1048576
  case neg =>
    go_enter Try.func18, Try.ntmps18
    go_wp2
    go_ret
    exact ⟨rfl, _, rfl⟩
  by_cases a3 : l1 + ms.length ≤ 1048576
  case neg =>
    go_enter Try.func18, Try.ntmps18
    go_wp2
    go_ret
    exact ⟨rfl, _, rfl⟩
  go_enter Try.func18, Try.ntmps18
  go_wp2
  go_loop [11, 12] (fun z i => ∃ (k : Nat) (t : Int), k ≤ ms.length ∧ i = .int .i64 k ∧ z = .int .i64 t ∧ 0 ≤ t ∧ t ≤ 1048576) (fun _ i => ms.length - (intOf i).toNat)
  case atStart => exact ⟨0, _, Nat.zero_le _, rfl, rfl, by omega, by omega⟩
  case round =>
    obtain ⟨k, t, hk, rfl, rfl, t0, t1⟩ := hrel
    by_cases hlt : k < ms.length
    · obtain ⟨b, off, e, q1, q2, _, hl⟩ := unhide HM k hlt
      subst e
      have hkl : (k : Int) < (ms.length : Int) := by omega
      generalize ms[k].halt.length = L at *
      generalize ms[k].o = oh at *
      generalize ms[k].cap = ch at *
      unfold maxLen at hl
      by_cases b1 : L ≤ 1048576
      · by_cases b2 : t + (L : Int) ≤ 1048576
        · go_wp2
          go_round
          case rel => exact ⟨k + 1, _, by omega, by go_num, rfl, by omega, by omega⟩
          case measure => simp [intOf]; omega
        · go_wp2
          go_ret
          exact ⟨rfl, _, rfl⟩
      · go_wp2
        go_ret
        exact ⟨rfl, _, rfl⟩
    · go_wp2
      go_ret
      exact ⟨rfl, _, rfl⟩

set_option maxHeartbeats 1000000 in
theorem crashBytes_any (o1 o2 : Option Addr) (l1 c1 c2 : Nat) (ms : List CM) (w : World) (h1 : l1 ≤ 1048576) (h2 : ms.length ≤ 65536) (hm : MsgsAt w o2 ms) :
    Calls Try.prog 13 #[.slice o1 l1 c1, .slice o2 ms.length c2] w fun e w' => w = w' ∧ SomeInt e := by
  have HM := hide hm
  clear hm
  go_enter Try.func13, Try.ntmps13
  go_wp2
  go_loop [5, 11] (fun z i => ∃ (k : Nat) (t : Int), k ≤ ms.length ∧ i = .int .i64 k ∧ z = .int .i64 t ∧ 0 ≤ t ∧ t ≤ 10485760) (fun _ i => ms.length - (intOf i).toNat)
  case atStart => exact ⟨0, _, Nat.zero_le _, rfl, rfl, by omega, by omega⟩
  case round =>
    obtain ⟨k, t, hk, rfl, rfl, t0, t1⟩ := hrel
    by_cases hlt : k < ms.length
    · obtain ⟨b, off, e, q1, q2, _, hl⟩ := unhide HM k hlt
      subst e
      have hkl : (k : Int) < (ms.length : Int) := by omega
      generalize ms[k].halt.length = L at *
      generalize ms[k].o = oh at *
      generalize ms[k].cap = ch at *
      unfold maxLen at hl
      by_cases b0 : 1048576 < t
      · have b0' : decide ((1048576 : Int) < t) = true := decide_eq_true b0
        go_wp2
        go_ret
        exact ⟨rfl, _, rfl⟩
      · have b0' : decide ((1048576 : Int) < t) = false := decide_eq_false b0
        by_cases b1 : L ≤ 1048576
        · go_wp2
          go_round
          case rel => exact ⟨k + 1, _, by omega, by go_num, rfl, by omega, by omega⟩
          case measure => simp [intOf]; omega
        · go_wp2
          go_ret
          exact ⟨rfl, _, rfl⟩
    · go_wp2
      go_ret
      exact ⟨rfl, _, rfl⟩
end Go.Proofs.Qxb6603393a
