import Derived.Test.Qxb6603393aTal
namespace Go.Proofs.Qxb6603393a
open Go.RowKit
set_option linter.unusedSimpArgs false
set_option linter.unusedVariables false

/-- one estimate of the argument -/
structure TM where
  v : Int
  a : Int
  r : Int
  l : Bool
/-- the estimates lie at o -/
def TMsgsAt (w : World) (o : Option Addr) (ms : List TM) : Prop := ∀ i (h : i < ms.length), ∃ b off, o = some ⟨b, off, none⟩ ∧ w.cell? ⟨b, off + i * 4, none⟩ = some (.int .i64 ms[i].v) ∧
  w.cell? ⟨b, off + i * 4 + 1, none⟩ = some (.int .i64 ms[i].a) ∧ w.cell? ⟨b, off + i * 4 + 2, none⟩ = some (.int .i64 ms[i].r) ∧ w.cell? ⟨b, off + i * 4 + 3, none⟩ = some (.bool ms[i].l)
theorem TMsgsAt.below {w w' : World} {o : Option Addr} {ms : List TM} (h : TMsgsAt w o ms) (hb : Below w.heap.size w w') : TMsgsAt w' o ms := fun i hi => by
  obtain ⟨b, off, e, h1, h2, h3, h4⟩ := h i hi
  exact ⟨b, off, e, (hb.cell (World.block_lt_of_cell? w _ h1)).trans h1, (hb.cell (World.block_lt_of_cell? w _ h2)).trans h2, (hb.cell (World.block_lt_of_cell? w _ h3)).trans h3, (hb.cell (World.block_lt_of_cell? w _ h4)).trans h4⟩

/-- the first k estimates are laid in the row g -/
def TRow (w wr : World) (g : Nat) (ms : List TM) (k : Nat) : Prop :=
  (∃ cur : Array Value, wr.heap[g]? = some (.cells cur 66 (0, 0)) ∧ cur.size = ms.length * 14 ∧ ∀ i (h : i < ms.length), i < k → cur[i * 14 + 3]? = some (.int .i64 ms[i].v) ∧ cur[i * 14 + 5]? = some (.int .i64 ms[i].a) ∧ cur[i * 14 + 6]? = some (.int .i64 ms[i].r) ∧ cur[i * 14 + 7]? = some (.bool ms[i].l)) ∧
  Below w.heap.size w wr ∧ w.heap.size ≤ g
theorem TRow.drew {w wr : World} {g : Nat} {ms : List TM} {k : Nat} (h : TRow w wr g ms k) : TRow w wr.drew g ms k := by
  obtain ⟨⟨c3, h1, h2, h3⟩, h4, h5⟩ := h
  exact ⟨⟨c3, h1, h2, h3⟩, h4.drew, h5⟩

set_option maxHeartbeats 2000000 in
theorem tmessages_any (o : Option Addr) (c : Nat) (ms : List TM) (w : World) (hlen : ms.length ≤ 65536) (hm : TMsgsAt w o ms) :
    Calls Try.prog 32 #[.slice o ms.length c] w fun e w' => e = .returned (.slice (some ⟨w.heap.size, 0, none⟩) ms.length ms.length) ∧ TRow w w' w.heap.size ms ms.length := by
  obtain ⟨i0, hi, hz0, hz1, hz2⟩ := info_parts info66
  have HM := hide hm
  clear hm
  go_enter Try.func32, Try.ntmps32
  go_wp2_with (at_make; refine wpList_make_full _ rfl _ _ 33 rfl w.heap.size 66 i0 (.agg zeroMsg) 14 Try.underlying33 hi hz0 hz1 _ _ _ _ ms.length rfl rfl rfl rfl (by rw [hz2]; omega) (by unfold maxLen; omega) (Nat.le_refl _) ?_; intro w1 hown hgr)
  have hst : TRow w w1 w.heap.size ms 0 := by
    refine ⟨?_, (Below.refl _ _).grown hgr (Nat.le_refl _) (fun k hk => by cases hk), Nat.le_refl _⟩
    rcases hown.2 with ⟨h', _⟩ | ⟨g', cap', cur, h', _, hg, _, _, hcs, _⟩
    · cases h'
    · simp only [Value.slice.injEq, Option.some.injEq, Addr.mk.injEq, and_true, true_and] at h'
      obtain ⟨h1, h2⟩ := h'
      subst h1; subst h2
      exact ⟨cur, hg, hcs, fun i h h' => by omega⟩
  have HST := hide hst
  clear hown hgr hst
  go_loopw [10] (fun i wr => ∃ k : Nat, k ≤ ms.length ∧ i = .int .i64 k ∧ TRow w wr w.heap.size ms k) (fun i _ => ms.length - (intOf i).toNat)
  case atStart => exact ⟨0, Nat.zero_le _, rfl, unhide HST⟩
  case round =>
    obtain ⟨k, hk, rfl, hrow⟩ := hrel
    clear HST
    by_cases hlt : k < ms.length
    · have hb := hrow.2.1
      obtain ⟨b, off, e, q1, q2, q3, q4⟩ := unhide HM k hlt
      have r1 := (hb.cell (World.block_lt_of_cell? w _ q1)).trans q1
      have r2 := (hb.cell (World.block_lt_of_cell? w _ q2)).trans q2
      have r3 := (hb.cell (World.block_lt_of_cell? w _ q3)).trans q3
      have r4 := (hb.cell (World.block_lt_of_cell? w _ q4)).trans q4
      subst e
      have HR := hide hrow
      have hkl : (k : Int) < (ms.length : Int) := by omega
      obtain ⟨cur, hg, hsz, hcur⟩ := hrow.1
      have hc : ∀ j, j < 14 → ∃ v, wr.cell? ⟨w.heap.size, k * 14 + j, none⟩ = some v := fun j hj => by
        rw [cell_of_row wr _ (k * 14 + j) cur 66 _ hg]
        exact ⟨_, Array.getElem?_eq_getElem (by omega)⟩
      have hf : ∀ j, wr.frozen? ⟨w.heap.size, j, none⟩ = false := fun j => frozen_of_row wr _ j cur 66 hg
      obtain ⟨v0, x0⟩ := hc 0 (by decide)
      obtain ⟨v1, x1⟩ := hc 1 (by decide)
      obtain ⟨v2, x2⟩ := hc 2 (by decide)
      obtain ⟨v3, x3⟩ := hc 3 (by decide)
      obtain ⟨v4, x4⟩ := hc 4 (by decide)
      obtain ⟨v5, x5⟩ := hc 5 (by decide)
      obtain ⟨v6, x6⟩ := hc 6 (by decide)
      obtain ⟨v7, x7⟩ := hc 7 (by decide)
      obtain ⟨v8, x8⟩ := hc 8 (by decide)
      obtain ⟨v9, x9⟩ := hc 9 (by decide)
      obtain ⟨v10, x10⟩ := hc 10 (by decide)
      obtain ⟨v11, x11⟩ := hc 11 (by decide)
      obtain ⟨v12, x12⟩ := hc 12 (by decide)
      obtain ⟨v13, x13⟩ := hc 13 (by decide)
      rw [Nat.add_zero] at x0
      clear hc hcur hrow hb q1 q2 q3 q4
      go_wp2
      go_region
      have hb2 := (unhide HR).2.1
      obtain ⟨cur', g1, g2, _, p3, _, p5, p6, p7, g5, g6⟩ := rowSet14 (B := w.heap.size) (o := k * 14) (.int .i64 0) (.int .i64 0) (.string ⟨#[]⟩) (.int .i64 ms[k].v) (.slice none 0 0) (.int .i64 ms[k].a) (.int .i64 ms[k].r) (.bool ms[k].l) (.bool false) (.slice none 0 0) (.slice none 0 0) (.pointer none) (.int .i64 0) (.slice none 0 0) hg (by omega) hb2 (Nat.le_refl _)
      have hnew : TRow w _ w.heap.size ms (k + 1) := ⟨⟨cur', g1, g2.trans hsz, fun i h hi => by
        obtain ⟨cur2, hg2, hs2, hc2⟩ := (unhide HR).1
        rw [hg] at hg2
        simp only [Option.some.injEq, Obj.cells.injEq, and_true] at hg2
        subst hg2
        by_cases e : i = k
        · subst e; exact ⟨p3, p5, p6, p7⟩
        · rw [g5 _ (by omega), g5 _ (by omega), g5 _ (by omega), g5 _ (by omega)]
          exact hc2 i h (by omega)⟩, g6, Nat.le_refl _⟩
      have HN := hide hnew
      clear hnew g1 g2 p3 p5 p6 p7 g5 g6 hb2 HR hg hf x0 x1 x2 x3 x4 x5 x6 x7 x8 x9 x10 x11 x12 x13
      generalize ((((((((((((((wr.setCell ⟨w.heap.size, k * 14, none⟩ (.int .i64 0)).setCell ⟨w.heap.size, k * 14 + 1, none⟩ (.int .i64 0)).setCell ⟨w.heap.size, k * 14 + 2, none⟩ (.string ⟨#[]⟩)).setCell ⟨w.heap.size, k * 14 + 3, none⟩ (.int .i64 ms[k].v)).setCell ⟨w.heap.size, k * 14 + 4, none⟩ (.slice none 0 0)).setCell ⟨w.heap.size, k * 14 + 5, none⟩ (.int .i64 ms[k].a)).setCell ⟨w.heap.size, k * 14 + 6, none⟩ (.int .i64 ms[k].r)).setCell ⟨w.heap.size, k * 14 + 7, none⟩ (.bool ms[k].l)).setCell ⟨w.heap.size, k * 14 + 8, none⟩ (.bool false)).setCell ⟨w.heap.size, k * 14 + 9, none⟩ (.slice none 0 0)).setCell ⟨w.heap.size, k * 14 + 10, none⟩ (.slice none 0 0)).setCell ⟨w.heap.size, k * 14 + 11, none⟩ (.pointer none)).setCell ⟨w.heap.size, k * 14 + 12, none⟩ (.int .i64 0)).setCell ⟨w.heap.size, k * 14 + 13, none⟩ (.slice none 0 0)) = X at HN ⊢
      go_wp2
      go_roundw
      case rel => exact ⟨k + 1, by omega, by go_num, (unhide HN).drew⟩
      case measure => simp [intOf]; omega
    · obtain rfl : k = ms.length := by omega
      have HR := hide hrow
      clear hrow
      go_wp2
      go_ret
      exact ⟨rfl, unhide HR⟩
end Go.Proofs.Qxb6603393a
