import Derived.Test.Qxb6603393aCount
namespace Go.Proofs.Qxb6603393a
open Go.RowKit
set_option linter.unusedSimpArgs false
set_option linter.unusedVariables false

/-- the law's answer -/
def LawEnd (w w' : World) (e : Ending) : Prop := e = .returned (.bool true) ∧ Below w.heap.size w w'
theorem LawEnd.same (w : World) : LawEnd w w (.returned (.bool true)) := ⟨rfl, Below.refl _ _⟩

theorem Src.toB {w : World} {o : Option Addr} {xs : List Value} (h : Src w o xs) : SrcB w w.heap.size o xs := fun j u hj => by
  obtain ⟨b, off, e, hc⟩ := h j u hj
  exact ⟨b, off, e, World.block_lt_of_cell? w _ hc, hc⟩
theorem SrcB.below {w w' : World} {B : Nat} {o : Option Addr} {xs : List Value} (h : SrcB w B o xs) (hb : Below B w w') : SrcB w' B o xs := fun j u hj => by
  obtain ⟨b, off, e, h1, hc⟩ := h j u hj
  exact ⟨b, off, e, h1, (hb.cell (p := ⟨b, off + j, none⟩) h1).trans hc⟩
theorem Marks.of_owns {w : World} {g : Nat} {xs : List Bool} (h : w.ownsRow g 4 1 (.slice (some ⟨g, 0, none⟩) xs.length xs.length) xs.length (xs.map Value.bool)) : Marks w g xs := by
  rcases h.2 with ⟨h', _⟩ | ⟨g', cap', cur, h', _, hg, _, _, hcs, htk⟩
  · cases h'
  · simp only [Value.slice.injEq, Option.some.injEq, Addr.mk.injEq, and_true, true_and] at h'
    obtain ⟨h1, h2⟩ := h'
    subst h1; subst h2
    rw [Nat.mul_one, List.take_of_length_le (by simp; omega)] at htk
    exact ⟨cur, hg, htk⟩
theorem Marks.below {w w' : World} {g : Nat} {xs : List Bool} (h : Marks w g xs) (hb : Below w.heap.size w w') : Marks w' g xs := by
  obtain ⟨cur, h1, h2⟩ := h
  exact ⟨cur, (hb.block g (lt_of_block h1)).trans h1, h2⟩

set_option maxRecDepth 100000 in
set_option maxHeartbeats 2000000 in
theorem law_count (n count r : Int) (o1 o2 : Option Addr) (c1 c2 : Nat) (xs : List Bool) (ms : List CM) (w : World) (hn : -9223372036854775808 ≤ n ∧ n ≤ 9223372036854775807)
    (h1 : xs.length ≤ maxLen) (h2 : ms.length ≤ maxLen) (hx : Src w o1 (xs.map Value.bool)) (hm : MsgsAt w o2 ms) :
    Calls Try.prog 5 #[.int .i64 n, .slice o1 xs.length c1, .int .i64 count, .int .i64 r, .slice o2 ms.length c2] w fun e w' => LawEnd w w' e := by
  have HX := hide hx
  have HM := hide hm
  have HL1 := hide h1
  have HL2 := hide h2
  unfold maxLen at h1 h2
  clear hx hm
  by_cases a1 : xs.length ≤ 1048576
  case neg =>
    have a1' : decide ((1048576 : Int) < (xs.length : Int)) = true := decide_eq_true (by omega)
    go_enter Try.func5, Try.ntmps5
    go_wp2_with (go_at_call 18; go_must (refine (bytes_any n count r o1 o2 xs.length c1 c2 ms w (unhide HL1) (unhide HL2) (unhide HM)).mono ?_); rintro e w' ⟨rfl, ok, rfl⟩; cases ok)
    all_goals (go_ret; exact LawEnd.same _)
  by_cases a2 : ms.length ≤ 65536
  case neg =>
    have a1' : decide ((1048576 : Int) < (xs.length : Int)) = false := decide_eq_false (by omega)
    have a2' : decide ((65536 : Int) < (ms.length : Int)) = true := decide_eq_true (by omega)
    go_enter Try.func5, Try.ntmps5
    go_wp2_with (go_at_call 18; go_must (refine (bytes_any n count r o1 o2 xs.length c1 c2 ms w (unhide HL1) (unhide HL2) (unhide HM)).mono ?_); rintro e w' ⟨rfl, ok, rfl⟩; cases ok)
    all_goals (go_ret; exact LawEnd.same _)
  have a1' : decide ((1048576 : Int) < (xs.length : Int)) = false := decide_eq_false (by omega)
  have a2' : decide ((65536 : Int) < (ms.length : Int)) = false := decide_eq_false (by omega)
  go_enter Try.func5, Try.ntmps5
  go_wp2_with (go_at_call 18; go_must (refine (bytes_any n count r o1 o2 xs.length c1 c2 ms w (unhide HL1) (unhide HL2) (unhide HM)).mono ?_); rintro e w' ⟨rfl, ok, rfl⟩; cases ok)
  · go_ret
    exact LawEnd.same _
  go_at_call 13
  refine (crashBytes_any o1 o2 xs.length c1 c2 ms w a1 a2 (unhide HM)).mono ?_
  rintro e w' ⟨rfl, t, rfl⟩
  by_cases a3 : 1048576 < t
  · have a3' : decide ((1048576 : Int) < t) = true := decide_eq_true a3
    go_wp2
    go_ret
    exact LawEnd.same _
  have a3' : decide ((1048576 : Int) < t) = false := decide_eq_false a3
  go_wp2_with fail
  go_at_call 14
  refine (outside_any n o1 o2 xs.length c1 c2 ms w a1 a2 hn (unhide HM)).mono ?_
  rintro e w' ⟨rfl, ok, rfl, hno⟩
  cases ok with
  | true =>
    clear hno
    go_wp2
    go_ret
    exact LawEnd.same _
  | false =>
    obtain ⟨b1, b2, b3, hok⟩ := hno rfl
    clear hno
    have HOK := hide hok
    clear hok
    obtain ⟨n, rfl⟩ := Int.eq_ofNat_of_zero_le b1
    go_wp2_with fail
    go_at_call 19
    refine (trueCount_any o1 c1 xs w a1 (unhide HX)).mono ?_
    rintro e w' ⟨rfl, rfl⟩
    by_cases a4 : count = (cnt xs : Int)
    case neg =>
      have a4' : (count == (cnt xs : Int)) = false := beq_false_of_ne a4
      go_wp2
      go_ret
      exact LawEnd.same _
    subst a4
    obtain ⟨b, off, rfl, _⟩ : ∃ b off, o1 = some ⟨b, off, none⟩ ∧ True := by
      obtain ⟨b, off, e, _⟩ := unhide HX 0 (.bool (xs[0]'(by omega))) (by simp)
      exact ⟨b, off, e, trivial⟩
    go_wp2_with fail
    go_at_call 16
    refine (clone_any ⟨b, off, none⟩ c1 xs w a1 (unhide HX)).mono ?_
    rintro e w1 ⟨rfl, hown, hb1⟩
    have HMK := hide (Marks.of_owns hown)
    have HB1 := hide hb1
    have hz1 := hb1.size
    clear hown hb1
    have hgl : w.heap.size < w1.heap.size := by obtain ⟨cur, hg1, _⟩ := unhide HMK; exact lt_of_block hg1
    go_wp2_with fail
    go_at_call 15
    refine (messages_any o2 c2 ms w1 a2 ((unhide HM).below (unhide HB1))).mono ?_
    rintro e w2 ⟨rfl, hrow, hb2, _⟩
    have HROW := hide hrow
    have HMK2 := hide ((unhide HMK).below hb2)
    have HB2 := hide ((unhide HB1).trans (hb2.mono hz1))
    have hz2 := hb2.size
    clear hrow hb2 HB1 HMK
    go_wp2_with fail
    go_at_call 17
    refine (zzNote_any w.heap.size w.heap.size xs.length w1.heap.size n xs r ms w2 (unhide HMK2) rfl a1 (by omega) (by omega) a2 (Nat.le_refl _) (by omega) ?_ ?_).mono ?_
    · obtain ⟨cur, q1, q2, q3⟩ := unhide HROW
      exact ⟨cur, q1, fun i hi => q3 i hi hi⟩
    · intro i hi
      obtain ⟨b, off, e, _, _, hs, hl⟩ := unhide HM i hi
      exact ⟨hs.toB.below (unhide HB2), hl, unhide HOK i hi⟩
    rintro e w3 ⟨ys, rfl, hmk3, hyl, hb3⟩
    have HMK3 := hide hmk3
    have HB3 := hide ((unhide HB2).trans hb3)
    clear hmk3 hb3 HB2 HMK2
    have hyb : ys.length ≤ 1048576 := by omega
    go_wp2_with fail
    go_at_call 19
    rw [← hyl]
    refine (trueCount_any _ _ ys w3 hyb (unhide HMK3).src).mono ?_
    rintro e w' ⟨rfl, rfl⟩
    go_wp2
    go_ret
    exact ⟨by simp, unhide HB3⟩
end Go.Proofs.Qxb6603393a
