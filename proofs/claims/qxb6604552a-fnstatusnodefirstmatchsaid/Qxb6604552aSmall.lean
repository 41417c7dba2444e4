import Derived.Test.Qxb6604552aBase
namespace Go.Proofs.Qxb6604552a
open Go.RowKit
open Extern.Stop (cell)
set_option linter.unusedSimpArgs false
set_option linter.unusedVariables false

/-- the address cell of a row -/
theorem RowsAt.addr {w : World} {o : Option Addr} {ns : List Nd} (h : RowsAt w o ns) (i : Nat) (hi : i < ns.length) : ∃ b off s, o = some ⟨b, off, none⟩ ∧ w.cell? ⟨b, off + i * 131 + 98, none⟩ = some (.string s) := by
  obtain ⟨b, off, e, h1, h2, h3⟩ := h i hi
  exact ⟨b, off, _, e, (NdAt.of h2 h3).addr⟩

set_option maxHeartbeats 1000000 in
theorem tooBig_any (o : Option Addr) (c : Nat) (ns : List Nd) (w : World) (hlen : ns.length ≤ 65536) (hr : RowsAt w o ns) :
    Calls Try.prog 9 #[.slice o ns.length c, .int .i64 0] w fun e w' => w' = w ∧ SomeBool e := by
  have HR := hide hr
  clear hr
  go_enter Try.func9, Try.ntmps9
  go_wp2
  go_loop [5, 6] (fun z i => ∃ (k : Nat) (t : Int), k ≤ ns.length ∧ i = .int .i64 k ∧ z = .int .i64 t) (fun _ i => ns.length - (intOf i).toNat)
  case atStart => exact ⟨0, _, Nat.zero_le _, rfl, rfl⟩
  case round =>
    obtain ⟨k, t, hk, rfl, rfl⟩ := hrel
    by_cases hlt : k < ns.length
    · obtain ⟨b, off, s, e, q1⟩ := RowsAt.addr (unhide HR) k hlt
      subst e
      have hkl : (k : Int) < (ns.length : Int) := by omega
      go_wp2
      · go_ret
        exact ⟨rfl, _, rfl⟩
      · go_round
        case rel => exact ⟨k + 1, _, by omega, by go_num, rfl⟩
        case measure => simp [intOf]; omega
    · go_wp2
      go_ret
      exact ⟨rfl, _, rfl⟩

/-- some Bool, and nothing old has turned -/
def BoolB (w w' : World) (e : Ending) : Prop := SomeBool e ∧ Below w.heap.size w w'

set_option maxHeartbeats 2000000 in
theorem bytes_any (o : Option Addr) (c : Nat) (ns : List Nd) (id : Array Value) (w : World) (hlen : ns.length ≤ maxLen) (hr : RowsAt w o ns) :
    Calls Try.prog 8 #[.slice o ns.length c, .agg id] w fun e w' => BoolB w w' e := by
  have HB := hide ((Below.refl w.heap.size w).alloc (Nat.le_refl _) (.cells id 23))
  have HR := hide fun i hi => hr.addr i hi
  clear hr
  unfold maxLen at hlen
  by_cases a1 : ns.length ≤ 1048576
  case neg =>
    go_enter Try.func8, Try.ntmps8
    go_wp2
    go_ret
    exact ⟨⟨_, rfl⟩, unhide HB⟩
  go_enter Try.func8, Try.ntmps8
  go_wp2
  go_loop [5, 6] (fun z i => ∃ (k : Nat) (t : Int), k ≤ ns.length ∧ i = .int .i64 k ∧ z = .int .i64 t) (fun _ i => ns.length - (intOf i).toNat)
  case atStart => exact ⟨0, _, Nat.zero_le _, rfl, rfl⟩
  case round =>
    obtain ⟨k, t, hk, rfl, rfl⟩ := hrel
    by_cases hlt : k < ns.length
    · obtain ⟨b, off, s, e, q0⟩ := unhide HR k hlt
      have q1 := ((unhide HB).cell (World.block_lt_of_cell? w _ q0)).trans q0
      clear q0
      subst e
      have hkl : (k : Int) < (ns.length : Int) := by omega
      go_wp2
      all_goals first
        | (go_ret; exact ⟨⟨_, rfl⟩, unhide HB⟩)
        | (go_round
           case rel => exact ⟨k + 1, _, by omega, by go_num, rfl⟩
           case measure => simp [intOf]; omega)
    · go_wp2
      go_ret
      exact ⟨⟨_, rfl⟩, unhide HB⟩
end Go.Proofs.Qxb6604552a
