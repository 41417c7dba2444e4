import Derived.Test.Qxb6603393aCount
namespace Go.Proofs.Qxb6603393a
open Go.RowKit
set_option linter.unusedSimpArgs false
set_option linter.unusedVariables false

theorem below_drewN {B : Nat} {w w' : World} (h : Below B w w') (n : Nat) : Below B w (w'.drewN n) := ⟨h.os, h.tape, h.output, h.size, h.block⟩
/-- some Bool, and nothing old has turned -/
def BoolB (w w' : World) (e : Ending) : Prop := SomeBool e ∧ Below w.heap.size w w'

set_option maxHeartbeats 1000000 in
theorem tbytes_any (id n t ch cs : Int) (d : Bool) (dv dr ti : Int) (la : Bool) (c r : Int) (o : Option Addr) (l k : Nat) (w : World) (hl : l ≤ 9223372036854775807) :
    Calls Try.prog 26 #[.agg #[.int .i64 id, .int .i64 n, .int .i64 t, .int .i64 ch, .int .i64 cs, .bool d, .int .i64 dv, .int .i64 dr, .int .i64 ti, .bool la], .int .i64 c, .int .i64 r, .slice o l k] w fun e w' => BoolB w w' e := by
  have hb0 := hide fun (b : Obj) => (Below.refl w.heap.size w).alloc (Nat.le_refl _) b
  by_cases a1 : l ≤ 1048576
  · go_enter Try.func26, Try.ntmps26
    go_wp2
    go_ret
    exact ⟨⟨_, rfl⟩, unhide hb0 _⟩
  · go_enter Try.func26, Try.ntmps26
    go_wp2
    go_ret
    exact ⟨⟨_, rfl⟩, unhide hb0 _⟩

/-- what tallyOutside answers -/
def TOut (n t : Int) (w w' : World) (e : Ending) : Prop := (∃ r, e = .returned (.bool r) ∧ (r = false → 1 ≤ n ∧ 0 ≤ t ∧ t < n)) ∧ Below w.heap.size w w'

set_option maxHeartbeats 1000000 in
theorem toutside_any (id n t ch cs : Int) (d : Bool) (dv dr ti : Int) (la : Bool) (w : World) :
    Calls Try.prog 21 #[.agg #[.int .i64 id, .int .i64 n, .int .i64 t, .int .i64 ch, .int .i64 cs, .bool d, .int .i64 dv, .int .i64 dr, .int .i64 ti, .bool la]] w fun e w' => TOut n t w w' e := by
  have hb0 := hide fun (b : Obj) => (Below.refl w.heap.size w).alloc (Nat.le_refl _) b
  by_cases a1 : n < 1
  · have a1' : decide (n < 1) = true := decide_eq_true a1
    go_enter Try.func21, Try.ntmps21
    go_wp2
    go_ret
    exact ⟨⟨_, rfl, fun h => by cases h⟩, unhide hb0 _⟩
  have a1' : decide (n < 1) = false := decide_eq_false a1
  by_cases a2 : t < 0
  · have a2' : decide (t < 0) = true := decide_eq_true a2
    go_enter Try.func21, Try.ntmps21
    go_wp2
    go_ret
    exact ⟨⟨_, rfl, fun h => by cases h⟩, unhide hb0 _⟩
  have a2' : decide (t < 0) = false := decide_eq_false a2
  by_cases a3 : n ≤ t
  · have a3' : decide (n ≤ t) = true := decide_eq_true a3
    go_enter Try.func21, Try.ntmps21
    go_wp2
    go_ret
    exact ⟨⟨_, rfl, fun h => by cases h⟩, unhide hb0 _⟩
  have a3' : decide (n ≤ t) = false := decide_eq_false a3
  go_enter Try.func21, Try.ntmps21
  go_wp2
  go_ret
  exact ⟨⟨_, rfl, fun _ => ⟨by omega, by omega, by omega⟩⟩, unhide hb0 _⟩

theorem isz44 : (Try.prog.info? 44).map (·.size) = some 6 := by kernel_rfl
theorem isz69 : (Try.prog.info? 69).map (·.size) = some 2 := by kernel_rfl

set_option maxHeartbeats 1000000 in
theorem tbefore_any (id n t ch cs : Int) (d : Bool) (dv dr ti : Int) (la : Bool) (w : World) :
    Calls Try.prog 23 #[.agg #[.int .i64 id, .int .i64 n, .int .i64 t, .int .i64 ch, .int .i64 cs, .bool d, .int .i64 dv, .int .i64 dr, .int .i64 ti, .bool la]] w fun e w' =>
      e = .returned (.agg #[.int .i64 ch, .int .i64 cs, .bool d, .int .i64 dv, .int .i64 dr, .int .i64 ti]) ∧ Below w.heap.size w w' := by
  go_enter Try.func23, Try.ntmps23
  go_wp2
  refine bodyPost_ret (results_cell_row rfl _ _ (w.heap.size + 1) 44 _ _ _ rfl (heap_alloc2_new w _ _) Try.underlying44 rfl isz44) rfl ⟨rfl, ?_⟩
  exact ((Below.refl w.heap.size w).alloc (Nat.le_refl _) _).alloc (by rw [size_alloc]; omega) _

/-- the message at off in the row g: attempt, rank, least -/
structure Msg (w : World) (g off : Nat) (v a r : Int) (l : Bool) : Prop where
  val : w.cell? ⟨g, off + 3, none⟩ = some (.int .i64 v)
  att : w.cell? ⟨g, off + 5, none⟩ = some (.int .i64 a)
  rank : w.cell? ⟨g, off + 6, none⟩ = some (.int .i64 r)
  least : w.cell? ⟨g, off + 7, none⟩ = some (.bool l)
theorem Msg.below {w w' : World} {g off : Nat} {v a r : Int} {l : Bool} (h : Msg w g off v a r l) (hb : Below w.heap.size w w') : Msg w' g off v a r l :=
  ⟨(hb.cell (World.block_lt_of_cell? w _ h.val)).trans h.val, (hb.cell (World.block_lt_of_cell? w _ h.att)).trans h.att, (hb.cell (World.block_lt_of_cell? w _ h.rank)).trans h.rank, (hb.cell (World.block_lt_of_cell? w _ h.least)).trans h.least⟩

set_option maxHeartbeats 1000000 in
theorem standing_any (g off : Nat) (v a r : Int) (l : Bool) (w : World) (h : Msg w g off v a r l) :
    Calls Try.prog 44 #[.pointer (some ⟨g, off, none⟩)] w fun e w' => e = .returned (.agg #[.int .i64 r, .bool l]) ∧ Below w.heap.size w w' := by
  have h1 := h.rank
  have h2 := h.least
  have hgl : g < w.heap.size := World.block_lt_of_cell? w _ h1
  have e1 : ∀ b : Obj, (w.alloc b).cell? ⟨g, off + 6, none⟩ = some (.int .i64 r) := fun b => (World.cell?_of_block (Below.heap_alloc w b g hgl)).trans h1
  have e2 : ∀ b : Obj, (w.alloc b).cell? ⟨g, off + 7, none⟩ = some (.bool l) := fun b => (World.cell?_of_block (Below.heap_alloc w b g hgl)).trans h2
  clear h
  go_enter Try.func44, Try.ntmps44
  go_wp2
  go_region
  go_wp2
  refine bodyPost_ret (results_cell_row rfl _ _ w.heap.size 69 _ _ _ rfl (new_alloc w _) Try.underlying69 rfl isz69) rfl ⟨rfl, ?_⟩
  exact ((Below.refl w.heap.size w).alloc (Nat.le_refl _) _).drew

set_option maxHeartbeats 1000000 in
theorem above_any (r1 r2 : Int) (l1 l2 : Bool) (w : World) :
    Calls Try.prog 45 #[.agg #[.int .i64 r1, .bool l1], .agg #[.int .i64 r2, .bool l2]] w fun e w' => BoolB w w' e := by
  have hb : ∀ A B : Obj, Below w.heap.size w ((w.alloc A).alloc B) := fun A B => ((Below.refl w.heap.size w).alloc (Nat.le_refl _) _).alloc (by rw [size_alloc]; omega) _
  have HB := hide hb
  clear hb
  by_cases a1 : r1 = r2
  · subst a1
    cases l1 <;> cases l2
    all_goals
      go_enter Try.func45, Try.ntmps45
      go_wp2
      go_ret
      exact ⟨⟨_, rfl⟩, unhide HB _ _⟩
  · have a1' : (r1 == r2) = false := beq_false_of_ne a1
    go_enter Try.func45, Try.ntmps45
    go_wp2
    go_ret
    exact ⟨⟨_, rfl⟩, unhide HB _ _⟩

set_option maxHeartbeats 1000000 in
theorem outranks_any (g o1 o2 : Nat) (v1 a1 r1 v2 a2 r2 : Int) (l1 l2 : Bool) (w : World) (h1 : Msg w g o1 v1 a1 r1 l1) (h2 : Msg w g o2 v2 a2 r2 l2) :
    Calls Try.prog 39 #[.pointer (some ⟨g, o1, none⟩), .pointer (some ⟨g, o2, none⟩)] w fun e w' => BoolB w w' e := by
  have t1 := h1.att
  have t2 := h2.att
  have H1 := hide h1
  have H2 := hide h2
  clear h1 h2
  by_cases e : a1 = a2
  · subst e
    go_enter Try.func39, Try.ntmps39
    go_wp2
    go_quiet (fail)
    have hbd := below_drewN (Below.refl w.heap.size w) nq
    have HBD := hide hbd
    have H1' := hide ((unhide H1).below hbd)
    have H2d := hide ((unhide H2).below hbd)
    have hsz : (w.drewN nq).heap.size = w.heap.size := rfl
    clear hbd
    go_wp2_with fail
    go_at_call 44
    generalize w.drewN nq = wd at *
    refine (standing_any g o1 v1 a1 r1 l1 _ (unhide H1')).mono ?_
    rintro e w1 ⟨rfl, hb1⟩
    have H2' := hide ((unhide H2d).below hb1)
    have HB1 := hide hb1
    clear hb1
    go_wp2_with fail
    go_at_call 44
    refine (standing_any g o2 v2 a1 r2 l2 _ (unhide H2')).mono ?_
    rintro e w2 ⟨rfl, hb2⟩
    have HB2 := hide hb2
    clear hb2
    go_wp2_with fail
    go_at_call 45
    refine (above_any r1 r2 l1 l2 _).mono ?_
    rintro e w3 ⟨⟨ok, rfl⟩, hb3⟩
    have HB3 := hide hb3
    clear hb3
    go_wp2
    go_ret
    have s1 := (unhide HB1).size
    have s2 := (unhide HB2).size
    exact ⟨⟨_, rfl⟩, (unhide HBD).trans (((unhide HB1).mono (by omega)).trans (((unhide HB2).mono (by omega)).trans ((unhide HB3).mono (by omega))))⟩
  · have e' : (a1 == a2) = false := beq_false_of_ne e
    go_enter Try.func39, Try.ntmps39
    go_wp2
    go_quiet (fail)
    go_wp2
    go_quiet (fail)
    go_wp2
    go_ret
    exact ⟨⟨_, rfl⟩, below_drewN (below_drewN (Below.refl _ _) _) _⟩

/-- the coordinator at p -/
structure CO (w : World) (p : Nat) (id n t : Int) : Prop where
  c0 : w.cell? ⟨p, 0, none⟩ = some (.int .i64 id)
  c1 : w.cell? ⟨p, 1, none⟩ = some (.int .i64 n)
  c2 : w.cell? ⟨p, 2, none⟩ = some (.int .i64 t)
theorem CO.below {w w' : World} {p : Nat} {id n t : Int} (h : CO w p id n t) (hb : Below w.heap.size w w') : CO w' p id n t :=
  ⟨(hb.cell (World.block_lt_of_cell? w _ h.c0)).trans h.c0, (hb.cell (World.block_lt_of_cell? w _ h.c1)).trans h.c1, (hb.cell (World.block_lt_of_cell? w _ h.c2)).trans h.c2⟩

def leadsB (id n c : Int) : Bool := wrap64 ((wrap64 (c - 1)).tmod n + 1) == id
set_option maxHeartbeats 1000000 in
theorem leads_any (p : Nat) (id n t c : Int) (b : Bool) (w : World) (h : CO w p id n t) (hn : 1 ≤ n) (hb : leadsB id n c = b) :
    Calls Try.prog 41 #[.pointer (some ⟨p, 0, none⟩), .int .i64 c] w fun e w' => e = .returned (.bool b) ∧ ∃ m, w' = w.drewN m := by
  subst hb
  have h0 := h.c0
  have h1 := h.c1
  have hn0 : n ≠ 0 := by omega
  have hn0' : (n == 0) = false := beq_false_of_ne hn0
  clear h
  go_enter Try.func41, Try.ntmps41
  go_wp2
  go_quiet (fail)
  go_wp2
  go_ret
  exact ⟨rfl, _, rfl⟩
end Go.Proofs.Qxb6603393a
