import Derived.Test.Qxb6603393aTalM
import Derived.Deep.RegionHeld3
namespace Go.Proofs.Qxb6603393a
open Go.RowKit
set_option linter.unusedSimpArgs false
set_option linter.unusedVariables false

/-- the estimates lie in the row g -/
def TRowAt (w : World) (g : Nat) (ms : List TM) : Prop := ∀ i (h : i < ms.length), Msg w g (i * 14) ms[i].v ms[i].a ms[i].r ms[i].l
theorem TRowAt.below {w w' : World} {g : Nat} {ms : List TM} (h : TRowAt w g ms) (hb : Below w.heap.size w w') : TRowAt w' g ms := fun i hi => (h i hi).below hb
theorem TRow.at {w wr : World} {g : Nat} {ms : List TM} (h : TRow w wr g ms ms.length) : TRowAt wr g ms := fun i hi => by
  obtain ⟨⟨cur, h1, h2, h3⟩, _⟩ := h
  obtain ⟨e1, e2, e3, e4⟩ := h3 i hi hi
  exact ⟨by rw [cell_of_row wr g _ cur 66 _ h1]; exact e1, by rw [cell_of_row wr g _ cur 66 _ h1]; exact e2, by rw [cell_of_row wr g _ cur 66 _ h1]; exact e3, by rw [cell_of_row wr g _ cur 66 _ h1]; exact e4⟩

set_option maxHeartbeats 4000000 in
theorem tally_any (p g : Nat) (id n t c r : Int) (ms : List TM) (w : World) (hco : CO w p id n t) (hrow : TRowAt w g ms) (hms : ms.length ≤ 32768) (ht0 : 0 ≤ t) (htn : t < n) (hn : n ≤ 9223372036854775807) (hq : (ms.length : Int) < n - t) :
    Calls Try.prog 37 #[.pointer (some ⟨p, 0, none⟩), .int .i64 c, .int .i64 r, .slice (some ⟨g, 0, none⟩) ms.length ms.length] w fun e w' => e = .returned (.tuple #[]) ∧ Below w.heap.size w w' := by
  have HC := hide hco
  have HR := hide hrow
  clear hco hrow
  go_enter Try.func37, Try.ntmps37
  go_wp2
  go_loopw [8, 9, 13] (fun a b i wr => ∃ k ac bs : Nat, k ≤ ms.length ∧ i = .int .i64 k ∧ a = .int .i64 ac ∧ ac ≤ k ∧ b = .int .i64 bs ∧ (bs = 0 ∨ bs < ms.length) ∧ Below w.heap.size w wr) (fun _ _ i _ => ms.length - (intOf i).toNat)
  case atStart => exact ⟨0, 0, 0, Nat.zero_le _, rfl, rfl, Nat.le_refl _, rfl, Or.inl rfl, Below.refl _ _⟩
  case round =>
    obtain ⟨k, ac, bs, hk, rfl, rfl, hac, rfl, hbs, hb⟩ := hrel
    have HB := hide hb
    by_cases hlt : k < ms.length
    · have hbl : bs < ms.length := by omega
      have m1 := ((unhide HR).below hb) k hlt
      have m2 := ((unhide HR).below hb) bs hbl
      have a1 := m1.att
      have M1 := hide m1
      have M2 := hide m2
      clear m1 m2 hb
      have hkl : (k : Int) < (ms.length : Int) := by omega
      have hbl' : (bs : Int) < (ms.length : Int) := by omega
      generalize ms[k].v = v1 at *
      generalize ms[k].a = at1 at *
      generalize ms[k].r = r1 at *
      generalize ms[k].l = l1 at *
      generalize ms[bs].v = v2 at *
      generalize ms[bs].a = at2 at *
      generalize ms[bs].r = r2 at *
      generalize ms[bs].l = l2 at *
      by_cases e : at1 = c
      · subst e
        go_wp2
        go_region_held3 (fun w' => True) (trivial)
          (first
            | (go_at_call 39
               refine (outranks_any g (k * 14) (bs * 14) v1 at1 r1 v2 at2 r2 l1 l2 _ ((unhide M1).below (Below.refl _ _).drew) ((unhide M2).below (Below.refl _ _).drew)).mono ?_
               rintro e w2 ⟨⟨ok, rfl⟩, hb2⟩
               have HB2 := hide ((unhide HB).drew.trans (hb2.mono (unhide HB).size))
               clear hb2))
        clear HB M1 M2 a1
        cases ok
        · go_wp2
          go_roundw
          case rel => exact ⟨k + 1, ac + 1, bs, by omega, by go_num, by go_num, by omega, rfl, Or.inr hbl, unhide HB2⟩
          case measure => simp [intOf]; omega
        · go_wp2
          go_roundw
          case rel => exact ⟨k + 1, ac + 1, k, by omega, by go_num, by go_num, by omega, rfl, Or.inr hlt, unhide HB2⟩
          case measure => simp [intOf]; omega
      · have e' : (at1 == c) = false := beq_false_of_ne e
        go_wp2
        go_region_held3 (fun w' => True) (trivial)
          (first
            | (go_at_call 39
               refine (outranks_any g (k * 14) (bs * 14) v1 at1 r1 v2 at2 r2 l1 l2 _ ((unhide M1).below (Below.refl _ _).drew) ((unhide M2).below (Below.refl _ _).drew)).mono ?_
               rintro e w2 ⟨⟨ok, rfl⟩, hb2⟩
               have HB2 := hide ((unhide HB).drew.trans (hb2.mono (unhide HB).size))
               clear hb2))
        clear HB M1 M2 a1
        cases ok
        · go_wp2
          go_roundw
          case rel => exact ⟨k + 1, ac, bs, by omega, by go_num, by go_num, by omega, rfl, Or.inr hbl, unhide HB2⟩
          case measure => simp [intOf]; omega
        · go_wp2
          go_roundw
          case rel => exact ⟨k + 1, ac, k, by omega, by go_num, by go_num, by omega, rfl, Or.inr hlt, unhide HB2⟩
          case measure => simp [intOf]; omega
    · obtain rfl : k = ms.length := by omega
      have hco := (unhide HC).below hb
      have HCO := hide hco
      have x1 := hco.c1
      have x2 := hco.c2
      clear hb hco
      have hw : IntKind.i64.wrap (n - t) = n - t := by rw [IntKind.wrap_i64]; omega
      have g1 : decide (n - t ≤ (ac : Int)) = false := decide_eq_false (by omega)
      have g2 : decide (n - t ≤ (ms.length : Int)) = false := decide_eq_false (by omega)
      go_wp2
      go_quiet (fail)
      go_wp2
      have HB1 := hide (below_drewN (unhide HB) nq)
      have HC1 := hide ((unhide HCO).below (below_drewN (Below.refl _ _) nq))
      clear x1 x2 HB HCO
      generalize wr.drewN nq = wd at *
      have x1 := (unhide HC1).c1
      have x2 := (unhide HC1).c2
      have hn1 : 1 ≤ n := by omega
      cases hld : leadsB id n (wrap64 (c + 1))
      all_goals
        have HLD := hide hld
        clear hld
        go_quiet ((go_at_call 41; refine Calls.quiet_of (leads_any p id n t (wrap64 (c + 1)) _ _ ((unhide HC1).below (below_drewN (Below.refl _ _) _)) hn1 (unhide HLD))))
        go_wp2
        go_end0
        exact ⟨rfl, below_drewN (unhide HB1) _⟩
end Go.Proofs.Qxb6603393a
