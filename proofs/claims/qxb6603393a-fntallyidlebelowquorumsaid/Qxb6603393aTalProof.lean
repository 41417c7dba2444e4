import Derived.Test.Qxb6603393aArgs
import Derived.Test.Qxb6603393aTalL
namespace Go.Proofs.Qxb6603393a
open Go.ChangeShapes Go.WideShapes Go.ChangeAt Go.RowKit Go.Deep
set_option linter.unusedVariables false

theorem list_four {α : Type} {l : List α} (h : l.length = 4) : ∃ u v x y, l = [u, v, x, y] := by
  match l, h with
  | [u, v, x, y], _ => exact ⟨u, v, x, y, rfl⟩
theorem list_ten {α : Type} {l : List α} (h : l.length = 10) : ∃ a b c d e f g i j k, l = [a, b, c, d, e, f, g, i, j, k] := by
  match l, h with
  | [a, b, c, d, e, f, g, i, j, k], _ => exact ⟨a, b, c, d, e, f, g, i, j, k, rfl⟩

theorem one_int {H : Type} {enc : TypeId × Value → H} {W : World} {fuel : Nat} {u : Value} {x : Option (DataW H × List MemPlace)} (hx : x ≠ none) (h : DataW.trod enc Try.prog W 0 (fun _ => true) true fuel 3 [u] = x) : ∃ z, u = .int .i64 z ∧ (Lit.int .i64 z).wf = true := by
  cases hh : x with
  | none => exact absurd hh hx
  | some y =>
    rw [hh] at h
    obtain ⟨z, e0, _, hw⟩ := DataW.trod_int Try.underlying3 h
    exact ⟨z, by simpa using e0, hw⟩
theorem one_bool {H : Type} {enc : TypeId × Value → H} {W : World} {fuel : Nat} {u : Value} {x : Option (DataW H × List MemPlace)} (hx : x ≠ none) (h : DataW.trod enc Try.prog W 0 (fun _ => true) true fuel 4 [u] = x) : ∃ z, u = .bool z := by
  cases hh : x with
  | none => exact absurd hh hx
  | some y =>
    rw [hh] at h
    obtain ⟨z, e0, _⟩ := DataW.trod_bool Try.underlying4 h
    exact ⟨z, by simpa using e0⟩

set_option maxRecDepth 100000 in
theorem arg_state {H : Type} {enc : TypeId × Value → H} {W : World} {r : Reach} {base : Nat} {v : Value} {d : DataW H} {p : List MemPlace} (hv : Value.okWide Try.prog W r base 39 v) (h : DataW.Trod enc Try.prog W 0 (fun _ => true) true 39 v d p) :
    ∃ (id n t ch cs : Int) (dd : Bool) (dv dr ti : Int) (la : Bool), v = .agg #[.int .i64 id, .int .i64 n, .int .i64 t, .int .i64 ch, .int .i64 cs, .bool dd, .int .i64 dv, .int .i64 dr, .int .i64 ti, .bool la] ∧ n ≤ 9223372036854775807 := by
  obtain ⟨fuel, hf⟩ := h
  obtain ⟨cells, rfl, hsz⟩ := okWide_struct Try.underlying39 hv
  have hc39 : Try.prog.cellsOf 39 = 10 := by kernel_rfl
  have hc3 : Try.prog.cellsOf 3 = 1 := by kernel_rfl
  have hc4 : Try.prog.cellsOf 4 = 1 := by kernel_rfl
  rw [hc39] at hsz
  obtain ⟨xs, m, _, _, _, hlen, hfld⟩ := DataW.trod_struct Try.underlying39 hf
  obtain ⟨l⟩ := cells
  obtain ⟨a0, a1, a2, a3, a4, a5, a6, a7, a8, a9, rfl⟩ := list_ten (l := l) (by simpa using hsz)
  have hne : ∀ i, i < 10 → xs[i]? ≠ none := fun i hi h => by
    have := List.getElem?_eq_none_iff.1 h
    have h10 : xs.length = 10 := hlen
    omega
  have g0 := hfld 0 _ rfl
  have g1 := hfld 1 _ rfl
  have g2 := hfld 2 _ rfl
  have g3 := hfld 3 _ rfl
  have g4 := hfld 4 _ rfl
  have g5 := hfld 5 _ rfl
  have g6 := hfld 6 _ rfl
  have g7 := hfld 7 _ rfl
  have g8 := hfld 8 _ rfl
  have g9 := hfld 9 _ rfl
  simp only [Value.cells] at g0 g1 g2 g3 g4 g5 g6 g7 g8 g9
  obtain ⟨z0, rfl, w0⟩ := one_int (hne 0 (by decide)) g0
  obtain ⟨z1, rfl, w1⟩ := one_int (hne 1 (by decide)) g1
  obtain ⟨z2, rfl, w2⟩ := one_int (hne 2 (by decide)) g2
  obtain ⟨z3, rfl, w3⟩ := one_int (hne 3 (by decide)) g3
  obtain ⟨z4, rfl, w4⟩ := one_int (hne 4 (by decide)) g4
  obtain ⟨z5, rfl⟩ := one_bool (hne 5 (by decide)) g5
  obtain ⟨z6, rfl, w6⟩ := one_int (hne 6 (by decide)) g6
  obtain ⟨z7, rfl, w7⟩ := one_int (hne 7 (by decide)) g7
  obtain ⟨z8, rfl, w8⟩ := one_int (hne 8 (by decide)) g8
  obtain ⟨z9, rfl⟩ := one_bool (hne 9 (by decide)) g9
  exact ⟨z0, z1, z2, z3, z4, z5, z6, z7, z8, z9, rfl, (i64_of_wf w1).2⟩

instance : Inhabited TM := ⟨⟨0, 0, 0, false⟩⟩

set_option maxRecDepth 100000 in
theorem arg_tmsgs {H : Type} {enc : TypeId × Value → H} {W : World} {o : Option Addr} {len cap : Nat} {d : DataW H} {p : List MemPlace} (h : DataW.Trod enc Try.prog W 0 (fun _ => true) true 40 (.slice o len cap) d p) :
    ∃ ms : List TM, len = ms.length ∧ ms.length ≤ maxLen ∧ TMsgsAt W o ms := by
  obtain ⟨fuel, hf⟩ := h
  have hc48 : Try.prog.cellsOf 48 = 4 := by kernel_rfl
  have hc3 : Try.prog.cellsOf 3 = 1 := by kernel_rfl
  have hc4 : Try.prog.cellsOf 4 = 1 := by kernel_rfl
  rcases open_slice Try.underlying40 hf with ⟨hcs, _⟩ | ⟨a, l, c, m, n, D, Pl, hcs, _, hl, hm, hmm, _, hx⟩
  · simp [Value.cells] at hcs
    obtain ⟨rfl, rfl, rfl⟩ := hcs
    exact ⟨[], rfl, by simp, fun i hi => by simp at hi⟩
  · simp [Value.cells] at hcs
    obtain ⟨rfl, rfl, rfl⟩ := hcs
    simp only [if_true] at hmm
    rw [hc48] at hx
    obtain ⟨V, hV⟩ := choose_lt (α := TM) (n := len) (p := fun i v => W.cell? (a.add (i * 4)) = some (.int .i64 v.v) ∧ W.cell? (a.add (i * 4 + 1)) = some (.int .i64 v.a) ∧ W.cell? (a.add (i * 4 + 2)) = some (.int .i64 v.r) ∧ W.cell? (a.add (i * 4 + 3)) = some (.bool v.l)) (fun i hi => by
      obtain ⟨cs', h1, h2⟩ := hx i (by omega)
      obtain ⟨_, hlen, hcell⟩ := World.cells?_some h1
      obtain ⟨xs, n', _, _, _, hxl, hfld⟩ := DataW.trod_struct Try.underlying48 h2
      obtain ⟨u0, u1, u2, u3, rfl⟩ := list_four hlen
      have hne : ∀ i, i < 4 → xs[i]? ≠ none := fun i hi h => by
        have := List.getElem?_eq_none_iff.1 h
        have h10 : xs.length = 4 := hxl
        omega
      have g0 := hfld 0 _ rfl
      have g1 := hfld 1 _ rfl
      have g2 := hfld 2 _ rfl
      have g3 := hfld 3 _ rfl
      obtain ⟨z0, rfl, _⟩ := one_int (hne 0 (by decide)) g0
      obtain ⟨z1, rfl, _⟩ := one_int (hne 1 (by decide)) g1
      obtain ⟨z2, rfl, _⟩ := one_int (hne 2 (by decide)) g2
      obtain ⟨z3, rfl⟩ := one_bool (hne 3 (by decide)) g3
      have h10 := hcell 0 (by omega)
      have h11 := hcell 1 (by omega)
      have h12 := hcell 2 (by omega)
      have h13 := hcell 3 (by omega)
      rw [Addr.add_zero'] at h10
      rw [Addr.add_add] at h11 h12 h13
      exact ⟨⟨z0, z1, z2, z3⟩, by simpa using h10, by simpa using h11, by simpa using h12, by simpa using h13⟩)
    refine ⟨(List.range len).map V, by simp, by simp; omega, fun i hi => ?_⟩
    have hi' : i < len := by simpa using hi
    obtain ⟨e1, e2, e3, e4⟩ := hV i hi'
    obtain ⟨b, off, spot⟩ := a
    have hspot : spot = none := by
      have h00 := World.cell?_spot (hV 0 (by omega)).1
      simpa [Addr.add] using h00
    subst hspot
    simp only [List.getElem_map, List.getElem_range]
    rw [add_plain] at e1 e2 e3 e4
    exact ⟨b, off, rfl, e1, by rw [Nat.add_assoc]; exact e2, by rw [Nat.add_assoc]; exact e3, by rw [Nat.add_assoc]; exact e4⟩

set_option maxHeartbeats 1600000 in
set_option maxRecDepth 100000 in
theorem tally_lifted (os : Os) (started : os.Started) (H : Type) (enc : TypeId × Value → H) :
    ReturnsInHanded {} Try.checked os 8 .any (Rows.fnTallyIdleBelowQuorumSpec.pre6 enc Try.prog Try.f8 Rows.fnTallyIdleBelowQuorumRow.domain false) (Rows.fnTallyIdleBelowQuorumSpec.post enc Try.prog Try.f8 false true false false) := by
  refine returnsInHanded_of_change (C := Try.checked) own started (by kernel_rfl) Try.func8
    (ChangeSpec.witness6 (enc := enc) (C := Try.checked) false ⟨#[], #[.agg #[.int .i64 0, .int .i64 0, .int .i64 0, .int .i64 0, .int .i64 0, .bool false, .int .i64 0, .int .i64 0, .int .i64 0, .bool false], .int .i64 0, .int .i64 0, .slice none 0 0], []⟩ 8 (by kernel_rfl) (by kernel_rfl) (by kernel_rfl) (by kernel_rfl)) ?_
  intro W base args ds gs before hval0 hW hcnd _
  have hval : ∀ (j : Nat) t v, Try.f8.params[j]? = some t → args[j]? = some v → Value.okWide Try.prog W .any base t v := hval0
  have hW' := hW
  obtain ⟨p, q, hA0, hV, rfl, hfz, hnd⟩ := hW
  have hA : DataW.TrodAll enc Try.prog W 0 (fun _ => true) true Try.f8.params.toList args.toList ds p := hA0
  rw [Try.params8] at hA hval
  obtain ⟨v0, vs0, d0, ds0, p0, q0, hargs, rfl, rfl, h0, r0⟩ := trodAll_cons hA
  obtain ⟨v1, vs1, d1, ds1, p1, q1, rfl, rfl, rfl, h1, r1⟩ := trodAll_cons r0
  obtain ⟨v2, vs2, d2, ds2, p2, q2, rfl, rfl, rfl, h2, r2⟩ := trodAll_cons r1
  obtain ⟨v3, vs3, d3, ds3, p3, q3, rfl, rfl, rfl, h3, r3⟩ := trodAll_cons r2
  obtain ⟨rfl, rfl, rfl⟩ := trodAll_nil r3
  obtain rfl : args = #[v0, v1, v2, v3] := by cases args; simp_all
  obtain ⟨rfl, rfl⟩ := trodVars_none hV
  obtain ⟨o3, len3, cap3, rfl⟩ := okWide_slice Try.underlying40 (hval 3 40 v3 rfl rfl)
  have lt0 : ∀ x ∈ p0, x.block < W.heap.size := by obtain ⟨m, hm⟩ := h0; exact DataW.trod_lt m _ _ _ hm
  have lt3 : ∀ x ∈ p3, x.block < W.heap.size := by obtain ⟨m, hm⟩ := h3; exact DataW.trod_lt m _ _ _ hm
  obtain ⟨ms, rfl, m3, s3⟩ := arg_tmsgs h3
  obtain ⟨z0, z1, z2, z3, z4, z5, z6, z7, z8, z9, rfl, hz⟩ := arg_state (hval 0 39 v0 rfl rfl) h0
  obtain ⟨a1, rfl, rfl, rfl, w1⟩ := open_int Try.underlying3 (hval 1 3 v1 rfl rfl) h1
  obtain ⟨a2, rfl, rfl, rfl, w2⟩ := open_int Try.underlying3 (hval 2 3 v2 rfl rfl) h2
  clear hA0 hval0
  refine (law_tally z0 z1 z2 z3 z4 z5 z6 z7 z8 z9 a1 a2 o3 cap3 ms W m3 hz s3).mono fun e W' ⟨he, bel⟩ => ?_
  subst he
  exact ⟨_, rfl, _, _, _, [], _, [], hW', trodAll_mk1 (shut_bool Try.underlying4 _), (trodAll_cons_mk (Below.trod laidOut (by kernel_rfl) (of_decide_eq_true (by kernel_rfl)) h0 bel lt0) (trodAll_cons_mk (shut_int Try.underlying3 w1) (trodAll_cons_mk (shut_int Try.underlying3 w2) (trodAll_cons_mk (Below.trod laidOut (by kernel_rfl) (of_decide_eq_true (by kernel_rfl)) h3 bel lt3) trodAll_mk0)))), rfl, bel.frame _, fun h => by cases h⟩

theorem tallyIdle_over : Rows.fnTallyIdleBelowQuorumRow.holds Try.pinned (OpenSpec.ofChange Rows.fnTallyIdleBelowQuorumSpec) :=
  OpenClaim.holds_of_wide 8 Try.f8 rfl rfl rfl rfl rfl rfl rfl ⟨rfl, rfl, rfl, rfl, rfl⟩ rfl rfl rfl rfl rfl (by kernel_rfl) Try.func8 (by kernel_rfl)
    (of_decide_eq_true (by kernel_rfl)) (by unfold Func.isWrapper; first | (rw [if_pos (by decide +kernel)]; kernel_rfl) | (rw [if_neg (by decide +kernel)]; exact ⟨rfl, rfl⟩))
    (fun os started H enc _ => tally_lifted os started H enc)

/-- THE STATEMENT -/
theorem tallyIdle_proved : Rows.FnTallyIdleBelowQuorumSaid := tallyIdle_over
#print axioms tallyIdle_proved
end Go.Proofs.Qxb6603393a
