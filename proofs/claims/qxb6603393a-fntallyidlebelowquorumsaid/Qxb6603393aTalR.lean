import Derived.Test.Qxb6603393aTalZ
namespace Go.Proofs.Qxb6603393a
open Go.RowKit
set_option linter.unusedSimpArgs false
set_option linter.unusedVariables false

set_option maxHeartbeats 4000000 in
theorem runTally_any (id n t ch cs : Int) (d : Bool) (dv dr ti : Int) (la : Bool) (c r : Int) (o : Option Addr) (cp : Nat) (ms : List TM) (w : World) (hm : TMsgsAt w o ms) (hms : ms.length ≤ 32768) (ht0 : 0 ≤ t) (htn : t < n) (hn : n ≤ 9223372036854775807) (hq : (ms.length : Int) < n - t) :
    Calls Try.prog 22 #[.agg #[.int .i64 id, .int .i64 n, .int .i64 t, .int .i64 ch, .int .i64 cs, .bool d, .int .i64 dv, .int .i64 dr, .int .i64 ti, .bool la], .int .i64 c, .int .i64 r, .slice o ms.length cp] w fun e w' =>
      e = .returned (.agg #[.int .i64 ch, .int .i64 cs, .bool d, .int .i64 dv, .int .i64 dr, .int .i64 ti]) ∧ Below w.heap.size w w' := by
  have HM := hide hm
  clear hm
  go_enter Try.func22, Try.ntmps22
  go_wp2_with fail
  have hb : Below w.heap.size w ((w.alloc (.cells #[.int .i64 id, .int .i64 n, .int .i64 t, .int .i64 ch, .int .i64 cs, .bool d, .int .i64 dv, .int .i64 dr, .int .i64 ti, .bool la] 39)).alloc (.cells #[.int .i64 0, .int .i64 0, .bool false, .int .i64 0, .int .i64 0, .int .i64 0] 44)) := ((Below.refl w.heap.size w).alloc (Nat.le_refl _) _).alloc (by rw [size_alloc]; omega) _
  have hz : ((w.alloc (.cells #[.int .i64 id, .int .i64 n, .int .i64 t, .int .i64 ch, .int .i64 cs, .bool d, .int .i64 dv, .int .i64 dr, .int .i64 ti, .bool la] 39)).alloc (.cells #[.int .i64 0, .int .i64 0, .bool false, .int .i64 0, .int .i64 0, .int .i64 0] 44)).heap.size = w.heap.size + 2 := by rw [size_alloc, size_alloc]
  have hcl : ∀ (j : Nat) (v : Value), (#[.int .i64 id, .int .i64 n, .int .i64 t, .int .i64 ch, .int .i64 cs, .bool d, .int .i64 dv, .int .i64 dr, .int .i64 ti, .bool la] : Array Value)[j]? = some v → ((w.alloc (.cells #[.int .i64 id, .int .i64 n, .int .i64 t, .int .i64 ch, .int .i64 cs, .bool d, .int .i64 dv, .int .i64 dr, .int .i64 ti, .bool la] 39)).alloc (.cells #[.int .i64 0, .int .i64 0, .bool false, .int .i64 0, .int .i64 0, .int .i64 0] 44)).cell? ⟨w.heap.size, j, none⟩ = some v := fun j v h => cell_new2 w _ 39 j v _ h
  have hro : ((w.alloc (.cells #[.int .i64 id, .int .i64 n, .int .i64 t, .int .i64 ch, .int .i64 cs, .bool d, .int .i64 dv, .int .i64 dr, .int .i64 ti, .bool la] 39)).alloc (.cells #[.int .i64 0, .int .i64 0, .bool false, .int .i64 0, .int .i64 0, .int .i64 0] 44)).heap[w.heap.size + 1]? = some (.cells #[.int .i64 0, .int .i64 0, .bool false, .int .i64 0, .int .i64 0, .int .i64 0] 44 (0, 0)) := heap_alloc2_new w _ _
  have HB := hide hb
  have HZ := hide hz
  have HCL := hide hcl
  have HRO := hide hro
  clear hb hz hcl hro
  generalize (w.alloc (.cells #[.int .i64 id, .int .i64 n, .int .i64 t, .int .i64 ch, .int .i64 cs, .bool d, .int .i64 dv, .int .i64 dr, .int .i64 ti, .bool la] 39)).alloc (.cells #[.int .i64 0, .int .i64 0, .bool false, .int .i64 0, .int .i64 0, .int .i64 0] 44) = w1 at *
  have hmw := (unhide HM).below (unhide HB)
  have HMW := hide hmw
  clear hmw HM
  have hlt : w.heap.size < w1.heap.size := by rw [unhide HZ]; omega
  generalize hH : w.heap.size = H at *
  have k0 := unhide HCL 0 _ rfl
  have k1 := unhide HCL 1 _ rfl
  have k2 := unhide HCL 2 _ rfl
  have k3 := unhide HCL 3 _ rfl
  have k4 := unhide HCL 4 _ rfl
  have k5 := unhide HCL 5 _ rfl
  have k6 := unhide HCL 6 _ rfl
  have k7 := unhide HCL 7 _ rfl
  have k8 := unhide HCL 8 _ rfl
  have k9 := unhide HCL 9 _ rfl
  have HKS : Hid ((w1.cell? ⟨H, 0, none⟩ = some (.int .i64 id) ∧ w1.cell? ⟨H, 1, none⟩ = some (.int .i64 n) ∧ w1.cell? ⟨H, 2, none⟩ = some (.int .i64 t) ∧ w1.cell? ⟨H, 3, none⟩ = some (.int .i64 ch) ∧ w1.cell? ⟨H, 4, none⟩ = some (.int .i64 cs) ∧ w1.cell? ⟨H, 5, none⟩ = some (.bool d) ∧ w1.cell? ⟨H, 6, none⟩ = some (.int .i64 dv) ∧ w1.cell? ⟨H, 7, none⟩ = some (.int .i64 dr) ∧ w1.cell? ⟨H, 8, none⟩ = some (.int .i64 ti) ∧ w1.cell? ⟨H, 9, none⟩ = some (.bool la))) := ⟨k0, k1, k2, k3, k4, k5, k6, k7, k8, k9⟩
  go_region_held3 (fun w' => w'.cell? ⟨H, 0, none⟩ = some (.int .i64 id) ∧ w'.cell? ⟨H, 1, none⟩ = some (.int .i64 n) ∧ w'.cell? ⟨H, 2, none⟩ = some (.int .i64 t) ∧ w'.cell? ⟨H, 3, none⟩ = some (.int .i64 ch) ∧ w'.cell? ⟨H, 4, none⟩ = some (.int .i64 cs) ∧ w'.cell? ⟨H, 5, none⟩ = some (.bool d) ∧ w'.cell? ⟨H, 6, none⟩ = some (.int .i64 dv) ∧ w'.cell? ⟨H, 7, none⟩ = some (.int .i64 dr) ∧ w'.cell? ⟨H, 8, none⟩ = some (.int .i64 ti) ∧ w'.cell? ⟨H, 9, none⟩ = some (.bool la)) (first | (refine ⟨?_, ?_, ?_, ?_, ?_, ?_, ?_, ?_, ?_, ?_⟩ <;> assumption) | (simp [*]; done))
    (first
      | (go_at_call 32
         refine (tmessages_any o cp ms _ (by omega) ((unhide HMW).below (Below.refl _ _).drew)).mono ?_
         rintro e w2 ⟨rfl, hrow⟩
         have HRW := hide hrow.at
         have hb2 := hrow.2.1
         have HB2 := hide hb2
         have hzz : w1.heap.size ≤ w2.heap.size := hb2.size
         have q0 := (hb2.cell (p := ⟨H, 0, none⟩) hlt).trans k0
         have q1 := (hb2.cell (p := ⟨H, 1, none⟩) hlt).trans k1
         have q2 := (hb2.cell (p := ⟨H, 2, none⟩) hlt).trans k2
         have q3 := (hb2.cell (p := ⟨H, 3, none⟩) hlt).trans k3
         have q4 := (hb2.cell (p := ⟨H, 4, none⟩) hlt).trans k4
         have q5 := (hb2.cell (p := ⟨H, 5, none⟩) hlt).trans k5
         have q6 := (hb2.cell (p := ⟨H, 6, none⟩) hlt).trans k6
         have q7 := (hb2.cell (p := ⟨H, 7, none⟩) hlt).trans k7
         have q8 := (hb2.cell (p := ⟨H, 8, none⟩) hlt).trans k8
         have q9 := (hb2.cell (p := ⟨H, 9, none⟩) hlt).trans k9
         clear hrow hb2)
      | (go_at_call 31
         refine (zztally_any id n t ch cs d dv dr ti la c r _ ms _ (unhide HRW) hms ht0 htn hn hq).mono ?_
         rintro e w3 ⟨rfl, hb3⟩
         have HB3 := hide hb3
         have z0 := (hb3.cell (p := ⟨H, 0, none⟩) (Nat.lt_of_lt_of_le hlt hzz)).trans q0
         have z1 := (hb3.cell (p := ⟨H, 1, none⟩) (Nat.lt_of_lt_of_le hlt hzz)).trans q1
         have z2 := (hb3.cell (p := ⟨H, 2, none⟩) (Nat.lt_of_lt_of_le hlt hzz)).trans q2
         have z3 := (hb3.cell (p := ⟨H, 3, none⟩) (Nat.lt_of_lt_of_le hlt hzz)).trans q3
         have z4 := (hb3.cell (p := ⟨H, 4, none⟩) (Nat.lt_of_lt_of_le hlt hzz)).trans q4
         have z5 := (hb3.cell (p := ⟨H, 5, none⟩) (Nat.lt_of_lt_of_le hlt hzz)).trans q5
         have z6 := (hb3.cell (p := ⟨H, 6, none⟩) (Nat.lt_of_lt_of_le hlt hzz)).trans q6
         have z7 := (hb3.cell (p := ⟨H, 7, none⟩) (Nat.lt_of_lt_of_le hlt hzz)).trans q7
         have z8 := (hb3.cell (p := ⟨H, 8, none⟩) (Nat.lt_of_lt_of_le hlt hzz)).trans q8
         have z9 := (hb3.cell (p := ⟨H, 9, none⟩) (Nat.lt_of_lt_of_le hlt hzz)).trans q9
         clear hb3))
  have hro3 : w3.heap[H + 1]? = some (.cells #[.int .i64 0, .int .i64 0, .bool false, .int .i64 0, .int .i64 0, .int .i64 0] 44 (0, 0)) := by
    have e1 : H + 1 < w1.heap.size := by rw [unhide HZ]; omega
    exact ((unhide HB3).block (H + 1) (by omega)).trans (((unhide HB2).block (H + 1) e1).trans (unhide HRO))
  have HBW : Hid (Below H w w3) := by
    have e1 : H ≤ w1.heap.size := by omega
    exact (unhide HB).drew.trans (((unhide HB2).mono e1).trans ((unhide HB3).mono (by omega)))
  have y0 := cell_of_row w3 (H + 1) 0 _ 44 _ hro3
  have y1 := cell_of_row w3 (H + 1) 1 _ 44 _ hro3
  have y2 := cell_of_row w3 (H + 1) 2 _ 44 _ hro3
  have y3 := cell_of_row w3 (H + 1) 3 _ 44 _ hro3
  have y4 := cell_of_row w3 (H + 1) 4 _ 44 _ hro3
  have y5 := cell_of_row w3 (H + 1) 5 _ 44 _ hro3
  simp only [List.getElem?_toArray, List.getElem?_cons_zero, List.getElem?_cons_succ] at y0 y1 y2 y3 y4 y5
  have hfz := fun j => frozen_of_row w3 (H + 1) j _ 44 hro3
  have HR3 := hide hro3
  clear hro3 HRO HB HB2 HB3 HRW HMW HCL HZ HKS k0 q0 z0 k1 q1 z1 k2 q2 z2 k3 q3 z3 k4 q4 z4 k5 q5 z5 k6 q6 z6 k7 q7 z7 k8 q8 z8 k9 q9 z9
  go_wp2
  have hfin := (heap_setCell_same _ (H + 1) 5 _ 44 (.int .i64 ti) ((heap_setCell_same _ (H + 1) 4 _ 44 (.int .i64 dr) ((heap_setCell_same _ (H + 1) 3 _ 44 (.int .i64 dv) ((heap_setCell_same _ (H + 1) 2 _ 44 (.bool d) ((heap_setCell_same _ (H + 1) 1 _ 44 (.int .i64 cs) ((heap_setCell_same _ (H + 1) 0 _ 44 (.int .i64 ch) (unhide HR3))))))))))))
  simp only [List.setIfInBounds_toArray, List.set_cons_zero, List.set_cons_succ] at hfin
  have hbw := ((((((((((((unhide HBW).setCell (p := ⟨H + 1, 0, none⟩) (by exact (Nat.le_succ H)) (.int .i64 ch))).setCell (p := ⟨H + 1, 1, none⟩) (by exact (Nat.le_succ H)) (.int .i64 cs))).setCell (p := ⟨H + 1, 2, none⟩) (by exact (Nat.le_succ H)) (.bool d))).setCell (p := ⟨H + 1, 3, none⟩) (by exact (Nat.le_succ H)) (.int .i64 dv))).setCell (p := ⟨H + 1, 4, none⟩) (by exact (Nat.le_succ H)) (.int .i64 dr))).setCell (p := ⟨H + 1, 5, none⟩) (by exact (Nat.le_succ H)) (.int .i64 ti))
  refine bodyPost_ret (results_cell_row rfl _ _ (H + 1) 44 #[.int .i64 ch, .int .i64 cs, .bool d, .int .i64 dv, .int .i64 dr, .int .i64 ti] _ _ rfl hfin Try.underlying44 rfl isz44) rfl ⟨rfl, by rw [hH]; exact hbw⟩
end Go.Proofs.Qxb6603393a
