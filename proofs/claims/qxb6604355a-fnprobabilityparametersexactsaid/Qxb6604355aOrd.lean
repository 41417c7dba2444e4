import Derived.Test.Qxb6604355aBase
namespace Go.Proofs.Qxb6604355a
open Go.RowKit
set_option linter.unusedSimpArgs false
set_option linter.unusedVariables false

/-- the cells of the value in the block b -/
structure ValAt (w : World) (b x : Nat) : Prop where
  el : w.cell? ⟨b, 0, none⟩ = some (.int .u16 311)
  bits : w.cell? ⟨b, 1, none⟩ = some (.int .u64 (x : Int))
  len : w.cell? ⟨b, 2, none⟩ = some (.int .i64 8)
  oct : w.cell? ⟨b, 3, none⟩ = some (.slice none 0 0)
theorem ValAt.of {w : World} {b x t : Nat} {n : Nat × Nat} (h : w.heap[b]? = some (.cells (val 311 x) t n)) : ValAt w b x :=
  ⟨by rw [cell_of_row w b 0 _ t _ h]; rfl, by rw [cell_of_row w b 1 _ t _ h]; rfl, by rw [cell_of_row w b 2 _ t _ h]; rfl, by rw [cell_of_row w b 3 _ t _ h]; rfl⟩
theorem ValAt.below {w w' : World} {b x : Nat} (h : ValAt w b x) (hb : Below w.heap.size w w') : ValAt w' b x :=
  ⟨(hb.cell (World.block_lt_of_cell? w _ h.el)).trans h.el, (hb.cell (World.block_lt_of_cell? w _ h.bits)).trans h.bits, (hb.cell (World.block_lt_of_cell? w _ h.len)).trans h.len, (hb.cell (World.block_lt_of_cell? w _ h.oct)).trans h.oct⟩

/-- the answer -/
def Yes (w w' : World) (e : Ending) : Prop := e = .returned (.bool true) ∧ Below w.heap.size w w'

/-- what the tests of the law answer -/
inductive Way (x y : Nat) : Prop where
  | lt (h : (FloatKind.f64.format.order x y == some .lt) = true) (k : key x < key y)
  | gt (h1 : (FloatKind.f64.format.order x y == some .lt) = false) (h2 : (FloatKind.f64.format.order y x == some .lt) = true) (k : key y < key x)
  | eq (h1 : (FloatKind.f64.format.order x y == some .lt) = false) (h2 : (FloatKind.f64.format.order y x == some .lt) = false) (h3 : (FloatKind.f64.format.order x y == some .eq) = true) (h4 : (FloatKind.f64.format.order x 0 != some .eq) = true) (k : x = y)
  | zero (h1 : (FloatKind.f64.format.order x y == some .lt) = false) (h2 : (FloatKind.f64.format.order y x == some .lt) = false) (h3 : (FloatKind.f64.format.order x y == some .eq) = true) (h4 : (FloatKind.f64.format.order x 0 != some .eq) = false)
  | none (h1 : (FloatKind.f64.format.order x y == some .lt) = false) (h2 : (FloatKind.f64.format.order y x == some .lt) = false) (h3 : (FloatKind.f64.format.order x y == some .eq) = false)

theorem f64_order (x y : Nat) : FloatKind.f64.format.order x y = Ieee.double.order x y := rfl

theorem way (x y : Nat) (hx : x < 2 * SW) (hy : y < 2 * SW) : Way x y := by
  rcases Nat.lt_or_ge INF (x % SW) with nx | nx
  · exact .none (by rw [f64_order, order_nan_l y nx]; rfl) (by rw [f64_order, order_nan_r y nx]; rfl) (by rw [f64_order, order_nan_l y nx]; rfl)
  rcases Nat.lt_or_ge INF (y % SW) with ny | ny
  · exact .none (by rw [f64_order, order_nan_r x ny]; rfl) (by rw [f64_order, order_nan_l x ny]; rfl) (by rw [f64_order, order_nan_r x ny]; rfl)
  have o1 : FloatKind.f64.format.order x y = _ := order_K x y nx ny
  have o2 : FloatKind.f64.format.order y x = _ := order_K y x ny nx
  have o3 : FloatKind.f64.format.order x 0 = _ := order_K x 0 nx (by decide)
  rw [K_zero] at o3
  rcases Int.lt_trichotomy (K x) (K y) with h | h | h
  · exact .lt (by rw [o1, Int.compare_eq_lt.2 h]; rfl) (K_lt hx hy h)
  · have c1 : compare (K x) (K y) = .eq := Int.compare_eq_eq.2 h
    have c2 : compare (K y) (K x) = .eq := Int.compare_eq_eq.2 h.symm
    by_cases hz : K x = 0
    · exact .zero (by rw [o1, c1]; rfl) (by rw [o2, c2]; rfl) (by rw [o1, c1]; rfl) (by rw [o3, Int.compare_eq_eq.2 hz]; rfl)
    · refine .eq (by rw [o1, c1]; rfl) (by rw [o2, c2]; rfl) (by rw [o1, c1]; rfl) ?_ (K_eq hx hy h hz)
      rw [o3]
      have : compare (K x) 0 ≠ .eq := fun e => hz (Int.compare_eq_eq.1 e)
      generalize compare (K x) 0 = c at *
      cases c <;> simp_all
  · exact .gt (by rw [o1, Int.compare_eq_gt.2 h]; rfl) (by rw [o2, Int.compare_eq_lt.2 h]; rfl) (K_lt hy hx h)

set_option maxHeartbeats 2000000 in
theorem law_ordered (x y : Nat) (hx : x < 2 * SW) (hy : y < 2 * SW) (w : World) : Calls Try.prog 4 #[.float .f64 x, .float .f64 y] w fun e w' => Yes w w' e := by
  have hw := way x y hx hy
  have hnil := fun (w : World) (a : Option Addr) (n c : Nat) => run_neq_slice_nil_any (P := Try.prog) w 29 5 a n c 0 0 Try.underlying29
  go_enter Try.func4, Try.ntmps4
  go_wp2_with (first
    | (go_at_call 5; refine (parameters_any x _).mono ?_; rintro e w1 ⟨b1, rfl, hb1, ⟨t1, n1, hc1⟩, hl1⟩; obtain ⟨p0, p1, p2, p3⟩ := ValAt.of hc1; clear hc1)
    | (go_at_call 5; refine (parameters_any y _).mono ?_; rintro e w2 ⟨b2, rfl, hb2, ⟨t2, n2, hc2⟩, hl2⟩; obtain ⟨q0, q1, q2, q3⟩ := ValAt.of hc2; obtain ⟨r0, r1, r2, r3⟩ := (ValAt.mk p0 p1 p2 p3).below hl2; clear hc2 p0 p1 p2 p3))
  have hbel : Below w.heap.size w w2 := hl1.trans (hl2.mono hl1.size)
  clear hl1 hl2 hb1 hb2
  rcases hw with ⟨h, k⟩ | ⟨h1, h2, k⟩ | ⟨h1, h2, h3, h4, k⟩ | ⟨h1, h2, h3, h4⟩ | ⟨h1, h2, h3⟩
  · have k' : decide (key x < key y) = true := decide_eq_true k
    clear k
    go_wp2_with (go_at_call 7; refine (key_any _ _ (by assumption)).mono ?_; rintro e w3 ⟨rfl, rfl⟩)
    go_ret
    exact ⟨rfl, hbel⟩
  · have k' : decide (key y < key x) = true := decide_eq_true k
    clear k
    go_wp2_with (go_at_call 7; refine (key_any _ _ (by assumption)).mono ?_; rintro e w3 ⟨rfl, rfl⟩)
    go_ret
    exact ⟨rfl, hbel⟩
  · subst k
    go_wp2_with (go_at_call 7; refine (key_any _ _ (by assumption)).mono ?_; rintro e w3 ⟨rfl, rfl⟩)
    go_region
    go_wp2
    go_ret
    exact ⟨rfl, hbel.drew⟩
  · skip
    go_wp2_with (go_at_call 7; refine (key_any _ _ (by assumption)).mono ?_; rintro e w3 ⟨rfl, rfl⟩)
    go_ret
    exact ⟨rfl, hbel⟩
  · skip
    go_wp2_with (go_at_call 7; refine (key_any _ _ (by assumption)).mono ?_; rintro e w3 ⟨rfl, rfl⟩)
    go_ret
    exact ⟨rfl, hbel⟩
end Go.Proofs.Qxb6604355a
