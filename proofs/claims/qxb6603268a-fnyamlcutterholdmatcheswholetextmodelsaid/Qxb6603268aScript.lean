import Derived.Test.Qxb6603268aSmall
namespace Go.Proofs.Qxb6603268a
open Go.RowKit

/-- the sum of the first k numbers -/
def sumTo (zs : List Int) : Nat → Int
  | 0 => 0
  | k + 1 => sumTo zs k + zs.getD k 0

def InR (zs : List Int) (k : Nat) : Prop := ∀ j, j < k → 0 ≤ zs.getD j 0 ∧ zs.getD j 0 ≤ 65536

theorem InR.succ {zs : List Int} {k : Nat} (h : InR zs k) (h0 : 0 ≤ zs.getD k 0) (h1 : zs.getD k 0 ≤ 65536) : InR zs (k + 1) := fun j hj => by
  by_cases e : j = k
  · subst e; exact ⟨h0, h1⟩
  · exact h j (by omega)

/-- what zzd1Script answers -/
def ScriptSays (zs : List Int) (k : Nat) (e : Ending) : Prop :=
  ∃ (a t : Int) (ok : Bool), e = .returned (.tuple #[.int .i64 a, .int .i64 t, .bool ok]) ∧ (ok = true → a = k ∧ t = sumTo zs k ∧ InR zs k ∧ 0 ≤ t ∧ t ≤ 1048576)

theorem ScriptSays.no (zs : List Int) (k : Nat) : ScriptSays zs k (.returned (.tuple #[.int .i64 0, .int .i64 0, .bool false])) := ⟨0, 0, false, rfl, fun h => by cases h⟩
theorem ScriptSays.yes {zs : List Int} {a : Int} {k k' : Nat} (hk : k' = k) (ha : a = k) (h1 : InR zs k) (h0 : 0 ≤ sumTo zs k) (h2 : sumTo zs k ≤ 1048576) : ScriptSays zs k' (.returned (.tuple #[.int .i64 a, .int .i64 (sumTo zs k), .bool true])) := by
  subst hk ha
  exact ⟨_, _, true, rfl, fun _ => ⟨rfl, rfl, h1, h0, h2⟩⟩

set_option maxHeartbeats 1000000 in
theorem script_any (o1 o2 o3 : Option Addr) (l1 c1 l2 c2 l3 c3 : Nat) (zs : List Int) (w : World) (h1 : l1 ≤ 65536) (h2 : l2 ≤ 65536) (h3 : l3 ≤ 65536)
    (hc : ∀ j, j < l2 → ∃ b off, o2 = some ⟨b, off, none⟩ ∧ w.cell? ⟨b, off + j, none⟩ = some (.int .i64 (zs.getD j 0))) :
    Calls Try.prog 11 #[.slice o1 l1 c1, .slice o2 l2 c2, .slice o3 l3 c3] w fun e w' => w' = w ∧ ScriptSays zs (min l1 (min l2 l3)) e := by
  have HC := hide hc
  clear hc
  obtain ⟨K, hK⟩ : ∃ K, K = min l1 (min l2 l3) := ⟨_, rfl⟩
  rw [← hK]
  have HK := hide hK
  have hK1 : K ≤ l1 := by omega
  have hK2 : K ≤ l2 := by omega
  have hK3 : K ≤ l3 := by omega
  have hKc : (l2 < l1 ∧ l3 < l2 ∧ l3 ≤ K) ∨ (l2 < l1 ∧ ¬ l3 < l2 ∧ l2 ≤ K) ∨ (¬ l2 < l1 ∧ l3 < l1 ∧ l3 ≤ K) ∨ (¬ l2 < l1 ∧ ¬ l3 < l1 ∧ l1 ≤ K) := by omega
  clear hK
  rcases hKc with ⟨a1, a2, a3⟩ | ⟨a1, a2, a3⟩ | ⟨a1, a2, a3⟩ | ⟨a1, a2, a3⟩
  all_goals
    go_enter Try.func11, Try.ntmps11
    go_wp2
    go_loop [10, 11] (fun t i => ∃ k : Nat, k ≤ K ∧ i = .int .i64 k ∧ t = .int .i64 (sumTo zs k) ∧ 0 ≤ sumTo zs k ∧ sumTo zs k ≤ 1048576 ∧ InR zs k) (fun _ i => 65536 - (intOf i).toNat)
    case atStart => exact ⟨0, Nat.zero_le _, rfl, rfl, by simp [sumTo], by simp [sumTo], fun j hj => by omega⟩
    case round =>
      obtain ⟨k, hk, rfl, rfl, ht0, ht1, hin⟩ := hrel
      by_cases hlt : k < K
      · obtain ⟨b, off, rfl, hcell⟩ := unhide HC k (by omega)
        have hs := fun h0 h1 => hin.succ (zs := zs) (k := k) h0 h1
        have e0 : sumTo zs (k + 1) = sumTo zs k + zs.getD k 0 := rfl
        have HS := hide hs
        have HE := hide e0
        clear hs e0 HC
        generalize zs.getD k 0 = z at *
        by_cases z0 : z < 0
        · go_wp2
          go_ret3
          exact ⟨rfl, ScriptSays.no _ _⟩
        · by_cases z1 : 65536 < z
          · go_wp2
            go_ret3
            exact ⟨rfl, ScriptSays.no _ _⟩
          · by_cases z2 : 1048576 < sumTo zs k + z
            · go_wp2
              go_ret3
              exact ⟨rfl, ScriptSays.no _ _⟩
            · go_wp2
              go_round
              case rel => exact ⟨k + 1, by omega, by go_num, by rw [unhide HE], by rw [unhide HE]; omega, by rw [unhide HE]; omega, unhide HS (by omega) (by omega)⟩
              case measure => simp [intOf]; omega
      · have hge : K = k := by omega
        have HG := hide hge
        clear hge
        go_wp2
        go_ret3
        exact ⟨rfl, ScriptSays.yes (unhide HG) (by have := unhide HG; omega) hin ht0 ht1⟩
end Go.Proofs.Qxb6603268a
