import Derived.Test.Qxb6604552aNodeOf
namespace Go.Proofs.Qxb6604552a
open Go.RowKit
open Extern.Stop (cell)
set_option linter.unusedSimpArgs false
set_option linter.unusedVariables false

theorem there_below {w w' : World} {b o n : Nat} (h : w.there b o n) {B : Nat} (hb : Below B w w') (hB : b < B) : w'.there b o n := fun j hj => by
  rw [hb.cell (p := ⟨b, o + j, none⟩) hB, hb.frozen (p := ⟨b, o + j, none⟩) hB]
  exact h j hj
theorem there_sub {w : World} {b n : Nat} (h : w.there b 0 n) (o m : Nat) (hm : o + m ≤ n) : w.there b o m := fun j hj => by
  have := h (o + j) (by omega)
  rwa [Nat.zero_add] at this
theorem below_setCells {B : Nat} {a : World} (b : Nat) (hb : B ≤ b) : ∀ (vs : List Value) (o : Nat) (w : World), Below B a w → Below B a (w.setCells b o vs)
  | [], _, _, h => h
  | v :: r, o, w, h => by
    rw [World.setCells]
    exact below_setCells b hb r (o + 1) _ (h.setCell (by exact hb) v)
theorem size_setCells (b : Nat) : ∀ (vs : List Value) (o : Nat) (w : World), (w.setCells b o vs).heap.size = w.heap.size
  | [], _, _ => rfl
  | v :: r, o, w => by
    rw [World.setCells, size_setCells b r (o + 1) _]
    simp [World.setCell]

/-- the first k nodes are laid in the row g -/
structure NodeRow (w wr : World) (g : Nat) (ns : List Nd) (k : Nat) : Prop where
  there : wr.there g 0 (ns.length * 131)
  laid : ∀ i (h : i < ns.length), i < k → wr.rangeAt g (i * 131) ns[i].cells
  below : Below w.heap.size w wr
  ge : w.heap.size ≤ g
  lt : g < wr.heap.size

theorem NodeRow.next {w wr w2 : World} {g : Nat} {ns : List Nd} {k : Nat} (h : NodeRow w wr g ns k) (hb : Below wr.heap.size wr w2) (hk : k < ns.length) (hl : ∀ i (h : i < ns.length), ns[i].cells.length = 131) :
    NodeRow w (w2.setCells g (k * 131) ns[k].cells) g ns (k + 1) := by
  have ht := there_below h.there hb h.lt
  have hlk := hl k hk
  refine ⟨World.there_setCells ht _ _ _, fun i hi hik => ?_, below_setCells g h.ge _ _ _ (h.below.trans (hb.mono h.below.size)), h.ge, by rw [size_setCells]; exact Nat.lt_of_lt_of_le h.lt hb.size⟩
  by_cases e : i = k
  · subst e
    exact World.rangeAt_setCells_same w2 g (i * 131) _ (there_sub ht _ _ (by rw [hlk]; omega))
  · have hli := hl i hi
    exact World.rangeAt_setCells_apart (rangeAt_below (h.laid i hi (by omega)) hb h.lt) g (k * 131) _ (Or.inr (Or.inl (by rw [hli]; omega)))

theorem info38b : (Try.prog.info? 38).map (fun i => (i.zero, i.size, i.bytes)) = some (some (.agg zeroNd.cells.toArray), 131, 160) := by kernel_rfl

/-- what nodesOf gives -/
def NodesOf (w w' : World) (ns : List Nd) (e : Ending) : Prop := ∃ o c, e = .returned (.slice o ns.length c) ∧ RowsAt w' o ns ∧ Below w.heap.size w w'

set_option maxHeartbeats 2000000 in
set_option maxRecDepth 100000 in
theorem nodesOf_any (o : Option Addr) (c : Nat) (ns : List Nd) (w : World) (hlen : ns.length ≤ 65536) (hnone : o = none → ns = [] ∧ c = 0) (hwf : ∀ n ∈ ns, n.Wf) (hr : RowsAt w o ns) :
    Calls Try.prog 10 #[.slice o ns.length c] w fun e w' => NodesOf w w' ns e := by
  have hnil := fun (w : World) (a : Option Addr) (n c : Nat) => Lib.run_eql_slice_nil (P := Try.prog) w 22 42 a n c 0 0 Try.underlying22
  obtain ⟨i0, hi, hz0, hz1, hz2⟩ := info_parts info38b
  have hl : ∀ i (h : i < ns.length), ns[i].cells.length = 131 := fun i h => Nd.length _ (hwf _ (List.getElem_mem h))
  have HR := hide hr
  have HWF := hide hwf
  have HL := hide hl
  clear hr hwf hl
  cases o with
  | none =>
    obtain ⟨rfl, rfl⟩ := hnone rfl
    go_enter Try.func10, Try.ntmps10
    go_wp2
    go_ret
    exact ⟨none, 0, rfl, fun i hi => by simp at hi, Below.refl _ _⟩
  | some ad =>
    clear hnone
    go_enter Try.func10, Try.ntmps10
    go_wp2_with (at_make; refine wpList_make_full _ rfl _ _ 26 rfl w.heap.size 38 i0 (.agg zeroNd.cells.toArray) 131 Try.underlying26 hi hz0 hz1 _ _ _ _ ns.length rfl rfl rfl rfl (by rw [hz2]; omega) (by unfold maxLen; omega) (Nat.le_refl _) ?_; intro w1 hown hgr)
    have hst : NodeRow w w1 w.heap.size ns 0 := by
      have hbel : Below w.heap.size w w1 := (Below.refl _ _).grown hgr (Nat.le_refl _) (fun k hk => by cases hk)
      rcases hown.2 with ⟨h', _⟩ | ⟨g', cap', cur, h', _, hg, _, _, hcs, _⟩
      · cases h'
      · simp only [Value.slice.injEq, Option.some.injEq, Addr.mk.injEq, and_true, true_and] at h'
        obtain ⟨h1, h2⟩ := h'
        subst h1; subst h2
        refine ⟨fun j hj => ⟨?_, frozen_of_row w1 _ _ cur 38 hg⟩, fun i h h' => by omega, hbel, Nat.le_refl _, ?_⟩
        · rw [cell_of_row w1 _ (0 + j) cur 38 _ hg, Array.getElem?_eq_getElem (by omega)]
          rfl
        · rcases Nat.lt_or_ge w.heap.size w1.heap.size with h | h
          · exact h
          · rw [Array.getElem?_eq_none h] at hg
            cases hg
    have HST := hide hst
    clear hown hgr hst
    go_loopw [4] (fun i wr => ∃ k : Nat, k ≤ ns.length ∧ i = .int .i64 k ∧ NodeRow w wr w.heap.size ns k) (fun i _ => ns.length - (intOf i).toNat)
    case atStart => exact ⟨0, Nat.zero_le _, rfl, unhide HST⟩
    case round =>
      obtain ⟨k, hk, rfl, hrow⟩ := hrel
      clear HST
      by_cases hlt : k < ns.length
      · obtain ⟨b, off, e, q1, q2, q3⟩ := unhide HR k hlt
        have r3 := rangeAt_below q3 hrow.below q1
        have hw := q2
        have hlk := unhide HL k hlt
        cases e
        have HROW := hide hrow
        clear hrow q1 q2 q3
        have hkl : (k : Int) < (ns.length : Int) := by omega
        generalize hnk : ns[k] = nk at *
        go_wp2_with (first
          | (refine wpList_load_mid rfl 42 _ rfl _ _ rfl nk.cells _ r3 Try.underlying42 rfl (by rw [isz42, hlk]) ?_)
          | (go_at_call 12; refine (nodeOf_any nk hw _).mono ?_; rintro e w2 ⟨rfl, hb2⟩)
          | (refine wpList_store_mid rfl 38 _ _ rfl _ _ nk.cells.toArray rfl rfl (there_sub (there_below (unhide HROW).there hb2 (unhide HROW).lt) _ _ (by rw [nk.arr hw]; omega)) (by rw [isz38, nk.arr hw]) nk.arrOne ?_))
        have hnx := (unhide HROW).next hb2 hlt (unhide HL)
        rw [hnk] at hnx
        exact ⟨⟨k + 1, by omega, by go_num, hnx⟩, by simp [intOf]; omega⟩
      · obtain rfl : k = ns.length := by omega
        have HROW := hide hrow
        clear hrow
        go_wp2
        go_ret
        have hrow := unhide HROW
        exact ⟨_, _, rfl, fun i hi => ⟨w.heap.size, 0, rfl, hrow.lt, unhide HWF _ (List.getElem_mem hi), by rw [Nat.zero_add]; exact hrow.laid i hi hi⟩, hrow.below⟩
end Go.Proofs.Qxb6604552a
