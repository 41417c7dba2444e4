import Derived.Test.Qxb6603393aTalR
import Derived.Laws.StructEq
namespace Go.Proofs.Qxb6603393a
open Go.RowKit
set_option linter.unusedSimpArgs false
set_option linter.unusedVariables false

theorem fields44 : Try.prog.underlying 44 = some (.struct (Try.prog.fieldsOf 44)) := by kernel_rfl
theorem held44 : Try.prog.stoodInHeld 44 = false := by kernel_rfl
theorem guard44 : Try.prog.eqGuardType Try.prog.depth 44 = false := by kernel_rfl
/-- the law's answer -/
def TEnd (w w' : World) (e : Ending) : Prop := e = .returned (.bool true) ∧ Below w.heap.size w w'

set_option maxRecDepth 100000 in
set_option maxHeartbeats 4000000 in
theorem law_tally (id n t ch cs : Int) (d : Bool) (dv dr ti : Int) (la : Bool) (c r : Int) (o : Option Addr) (cp : Nat) (ms : List TM) (w : World) (hl : ms.length ≤ maxLen) (hn : n ≤ 9223372036854775807) (hm : TMsgsAt w o ms) :
    Calls Try.prog 8 #[.agg #[.int .i64 id, .int .i64 n, .int .i64 t, .int .i64 ch, .int .i64 cs, .bool d, .int .i64 dv, .int .i64 dr, .int .i64 ti, .bool la], .int .i64 c, .int .i64 r, .slice o ms.length cp] w fun e w' => TEnd w w' e := by
  have HM := hide hm
  clear hm
  unfold maxLen at hl
  have hs44 := held44
  have hg44 := guard44
  have hf44 := fields44
  have HS := hide hs44
  have HG := hide hg44
  have HF := hide hf44
  clear hs44 hg44 hf44
  go_enter Try.func8, Try.ntmps8
  go_wp2_with fail
  go_at_call 26
  have hb := (Below.refl w.heap.size w).alloc (Nat.le_refl _) (.cells #[.int .i64 id, .int .i64 n, .int .i64 t, .int .i64 ch, .int .i64 cs, .bool d, .int .i64 dv, .int .i64 dr, .int .i64 ti, .bool la] 39)
  have hz := size_alloc w (.cells #[.int .i64 id, .int .i64 n, .int .i64 t, .int .i64 ch, .int .i64 cs, .bool d, .int .i64 dv, .int .i64 dr, .int .i64 ti, .bool la] 39)
  have hcl := fun j v h => cell_new w #[.int .i64 id, .int .i64 n, .int .i64 t, .int .i64 ch, .int .i64 cs, .bool d, .int .i64 dv, .int .i64 dr, .int .i64 ti, .bool la] 39 j v h
  have HB := hide hb
  have HZ := hide hz
  have HCL := hide hcl
  clear hb hz hcl
  generalize w.alloc (.cells #[.int .i64 id, .int .i64 n, .int .i64 t, .int .i64 ch, .int .i64 cs, .bool d, .int .i64 dv, .int .i64 dr, .int .i64 ti, .bool la] 39) = w1 at *
  refine (tbytes_any id n t ch cs d dv dr ti la c r o ms.length cp w1 (by omega)).mono ?_
  rintro e w2 ⟨⟨ok, rfl⟩, hb2⟩
  have hlt : w.heap.size < w1.heap.size := by rw [unhide HZ]; omega
  have HB2 := hide ((unhide HB).trans (hb2.mono (by omega)))
  have hz2 := hb2.size
  generalize hH : w.heap.size = H at *
  have k0 := (hb2.cell (p := ⟨H, 0, none⟩) hlt).trans (unhide HCL 0 _ rfl)
  have k1 := (hb2.cell (p := ⟨H, 1, none⟩) hlt).trans (unhide HCL 1 _ rfl)
  have k2 := (hb2.cell (p := ⟨H, 2, none⟩) hlt).trans (unhide HCL 2 _ rfl)
  have k3 := (hb2.cell (p := ⟨H, 3, none⟩) hlt).trans (unhide HCL 3 _ rfl)
  have k4 := (hb2.cell (p := ⟨H, 4, none⟩) hlt).trans (unhide HCL 4 _ rfl)
  have k5 := (hb2.cell (p := ⟨H, 5, none⟩) hlt).trans (unhide HCL 5 _ rfl)
  have k6 := (hb2.cell (p := ⟨H, 6, none⟩) hlt).trans (unhide HCL 6 _ rfl)
  have k7 := (hb2.cell (p := ⟨H, 7, none⟩) hlt).trans (unhide HCL 7 _ rfl)
  have k8 := (hb2.cell (p := ⟨H, 8, none⟩) hlt).trans (unhide HCL 8 _ rfl)
  have k9 := (hb2.cell (p := ⟨H, 9, none⟩) hlt).trans (unhide HCL 9 _ rfl)
  clear hb2 HB HZ HCL
  cases ok
  · go_wp2
    go_ret
    exact ⟨rfl, by rw [hH]; exact unhide HB2⟩
  by_cases a1 : ms.length ≤ 32768
  case neg =>
    go_wp2
    go_ret
    exact ⟨rfl, by rw [hH]; exact unhide HB2⟩
  go_wp2_with fail
  go_at_call 21
  refine (toutside_any id n t ch cs d dv dr ti la w2).mono ?_
  rintro e w3 ⟨⟨ok, rfl, hno⟩, hb3⟩
  have HB3 := hide ((unhide HB2).trans (hb3.mono (by omega)))
  have hz3 := hb3.size
  have hlt2 : H < w2.heap.size := by omega
  have q0 := (hb3.cell (p := ⟨H, 0, none⟩) hlt2).trans k0
  have q1 := (hb3.cell (p := ⟨H, 1, none⟩) hlt2).trans k1
  have q2 := (hb3.cell (p := ⟨H, 2, none⟩) hlt2).trans k2
  have q3 := (hb3.cell (p := ⟨H, 3, none⟩) hlt2).trans k3
  have q4 := (hb3.cell (p := ⟨H, 4, none⟩) hlt2).trans k4
  have q5 := (hb3.cell (p := ⟨H, 5, none⟩) hlt2).trans k5
  have q6 := (hb3.cell (p := ⟨H, 6, none⟩) hlt2).trans k6
  have q7 := (hb3.cell (p := ⟨H, 7, none⟩) hlt2).trans k7
  have q8 := (hb3.cell (p := ⟨H, 8, none⟩) hlt2).trans k8
  have q9 := (hb3.cell (p := ⟨H, 9, none⟩) hlt2).trans k9
  clear hb3 k0 k1 k2 k3 k4 k5 k6 k7 k8 k9
  cases ok
  case true =>
    clear hno
    go_wp2
    go_ret
    exact ⟨rfl, by rw [hH]; exact unhide HB3⟩
  obtain ⟨b1, b2, b3⟩ := hno rfl
  clear hno
  have hw : IntKind.i64.wrap (n - t) = n - t := by rw [IntKind.wrap_i64]; omega
  by_cases a2 : n - t ≤ (ms.length : Int)
  · go_wp2
    go_ret
    exact ⟨rfl, by rw [hH]; exact unhide HB3⟩
  have a2' : (ms.length : Int) < n - t := by omega
  go_wp2_with fail
  have hmm := (unhide HM).below (by have hh := unhide HB3; rw [← hH] at hh; exact hh)
  have HM3 := hide hmm
  clear hmm
  have hlt3 : H < w3.heap.size := by omega
  have hs44 := unhide HS
  have hg44 := unhide HG
  go_region_held3 (fun w' => w'.cell? ⟨H, 0, none⟩ = some (.int .i64 id) ∧ w'.cell? ⟨H, 1, none⟩ = some (.int .i64 n) ∧ w'.cell? ⟨H, 2, none⟩ = some (.int .i64 t) ∧ w'.cell? ⟨H, 3, none⟩ = some (.int .i64 ch) ∧ w'.cell? ⟨H, 4, none⟩ = some (.int .i64 cs) ∧ w'.cell? ⟨H, 5, none⟩ = some (.bool d) ∧ w'.cell? ⟨H, 6, none⟩ = some (.int .i64 dv) ∧ w'.cell? ⟨H, 7, none⟩ = some (.int .i64 dr) ∧ w'.cell? ⟨H, 8, none⟩ = some (.int .i64 ti) ∧ w'.cell? ⟨H, 9, none⟩ = some (.bool la)) (first | (refine ⟨?_, ?_, ?_, ?_, ?_, ?_, ?_, ?_, ?_, ?_⟩ <;> assumption) | (simp [*]; done))
    (first
      | (go_at_call 22
         refine (runTally_any id n t ch cs d dv dr ti la c r o cp ms _ ((unhide HM3).below (Below.refl _ _).drew) a1 b2 b3 hn a2').mono ?_
         rintro e w4 ⟨rfl, hb4⟩
         have HB4 := hide ((unhide HB3).drew.trans (hb4.mono (by exact Nat.le_of_lt hlt3)))
         have hzz : w3.heap.size ≤ w4.heap.size := hb4.size
         have x0 := (hb4.cell (p := ⟨H, 0, none⟩) hlt3).trans q0
         have x1 := (hb4.cell (p := ⟨H, 1, none⟩) hlt3).trans q1
         have x2 := (hb4.cell (p := ⟨H, 2, none⟩) hlt3).trans q2
         have x3 := (hb4.cell (p := ⟨H, 3, none⟩) hlt3).trans q3
         have x4 := (hb4.cell (p := ⟨H, 4, none⟩) hlt3).trans q4
         have x5 := (hb4.cell (p := ⟨H, 5, none⟩) hlt3).trans q5
         have x6 := (hb4.cell (p := ⟨H, 6, none⟩) hlt3).trans q6
         have x7 := (hb4.cell (p := ⟨H, 7, none⟩) hlt3).trans q7
         have x8 := (hb4.cell (p := ⟨H, 8, none⟩) hlt3).trans q8
         have x9 := (hb4.cell (p := ⟨H, 9, none⟩) hlt3).trans q9
         clear hb4)
      | (go_at_call 23
         refine (tbefore_any id n t ch cs d dv dr ti la _).mono ?_
         rintro e w5 ⟨rfl, hb5⟩
         have HB5 := hide ((unhide HB4).trans (hb5.mono (by omega)))
         have z0 := (hb5.cell (p := ⟨H, 0, none⟩) (Nat.lt_of_lt_of_le hlt3 hzz)).trans x0
         have z1 := (hb5.cell (p := ⟨H, 1, none⟩) (Nat.lt_of_lt_of_le hlt3 hzz)).trans x1
         have z2 := (hb5.cell (p := ⟨H, 2, none⟩) (Nat.lt_of_lt_of_le hlt3 hzz)).trans x2
         have z3 := (hb5.cell (p := ⟨H, 3, none⟩) (Nat.lt_of_lt_of_le hlt3 hzz)).trans x3
         have z4 := (hb5.cell (p := ⟨H, 4, none⟩) (Nat.lt_of_lt_of_le hlt3 hzz)).trans x4
         have z5 := (hb5.cell (p := ⟨H, 5, none⟩) (Nat.lt_of_lt_of_le hlt3 hzz)).trans x5
         have z6 := (hb5.cell (p := ⟨H, 6, none⟩) (Nat.lt_of_lt_of_le hlt3 hzz)).trans x6
         have z7 := (hb5.cell (p := ⟨H, 7, none⟩) (Nat.lt_of_lt_of_le hlt3 hzz)).trans x7
         have z8 := (hb5.cell (p := ⟨H, 8, none⟩) (Nat.lt_of_lt_of_le hlt3 hzz)).trans x8
         have z9 := (hb5.cell (p := ⟨H, 9, none⟩) (Nat.lt_of_lt_of_le hlt3 hzz)).trans x9
         clear hb5))
  go_wp2
  go_ret
  exact ⟨by simp, by rw [hH]; exact unhide HB5⟩
end Go.Proofs.Qxb6603393a
