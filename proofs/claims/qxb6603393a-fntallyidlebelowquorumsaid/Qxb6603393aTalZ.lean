import Derived.Test.Qxb6603393aTalW
namespace Go.Proofs.Qxb6603393a
open Go.RowKit
set_option linter.unusedSimpArgs false
set_option linter.unusedVariables false

theorem cell_new (w : World) (cs : Array Value) (ty j : Nat) (v : Value) (h : cs[j]? = some v) : (w.alloc (.cells cs ty (0, 0))).cell? ⟨w.heap.size, j, none⟩ = some v := by
  rw [cell_of_row (w.alloc (.cells cs ty (0, 0))) w.heap.size j cs ty _ (new_alloc w _)]
  exact h

theorem cell_new2 (w : World) (cs : Array Value) (ty j : Nat) (v : Value) (b : Obj) (h : cs[j]? = some v) : ((w.alloc (.cells cs ty (0, 0))).alloc b).cell? ⟨w.heap.size, j, none⟩ = some v := by
  have hl : w.heap.size < (w.alloc (.cells cs ty (0, 0))).heap.size := by rw [size_alloc]; omega
  exact (World.cell?_of_block (Below.heap_alloc _ b w.heap.size hl)).trans (cell_new w cs ty j v h)

set_option maxHeartbeats 1000000 in
theorem zztally_any (id n t ch cs : Int) (d : Bool) (dv dr ti : Int) (la : Bool) (c r : Int) (g : Nat) (ms : List TM) (w : World) (hrow : TRowAt w g ms) (hms : ms.length ≤ 32768) (ht0 : 0 ≤ t) (htn : t < n) (hn : n ≤ 9223372036854775807) (hq : (ms.length : Int) < n - t) :
    Calls Try.prog 31 #[.int .i64 id, .int .i64 n, .int .i64 t, .int .i64 ch, .int .i64 cs, .bool d, .int .i64 dv, .int .i64 dr, .int .i64 ti, .bool la, .int .i64 c, .int .i64 r, .slice (some ⟨g, 0, none⟩) ms.length ms.length] w fun e w' =>
      e = .returned (.tuple #[.int .i64 ch, .int .i64 cs, .bool d, .int .i64 dv, .int .i64 dr, .int .i64 ti]) ∧ Below w.heap.size w w' := by
  have HR := hide hrow
  clear hrow
  go_enter Try.func31, Try.ntmps31
  go_wp2_with fail
  go_at_call 37
  have hb := (Below.refl w.heap.size w).alloc (Nat.le_refl _) (.cells #[.int .i64 id, .int .i64 n, .int .i64 t, .int .i64 0, .int .i64 0, .int .i64 0, .int .i64 0, .bool false, .int .i64 ch, .int .i64 cs, .int .i64 dv, .int .i64 dr, .bool d, .int .i64 ti, .bool la] 76)
  have HB := hide hb
  have hz := size_alloc w (.cells #[.int .i64 id, .int .i64 n, .int .i64 t, .int .i64 0, .int .i64 0, .int .i64 0, .int .i64 0, .bool false, .int .i64 ch, .int .i64 cs, .int .i64 dv, .int .i64 dr, .bool d, .int .i64 ti, .bool la] 76)
  have hcl := fun j v h => cell_new w #[.int .i64 id, .int .i64 n, .int .i64 t, .int .i64 0, .int .i64 0, .int .i64 0, .int .i64 0, .bool false, .int .i64 ch, .int .i64 cs, .int .i64 dv, .int .i64 dr, .bool d, .int .i64 ti, .bool la] 76 j v h
  have HCL := hide hcl
  have HZ := hide hz
  clear hb hcl hz
  generalize w.alloc (.cells #[.int .i64 id, .int .i64 n, .int .i64 t, .int .i64 0, .int .i64 0, .int .i64 0, .int .i64 0, .bool false, .int .i64 ch, .int .i64 cs, .int .i64 dv, .int .i64 dr, .bool d, .int .i64 ti, .bool la] 76) = w1 at *
  refine (tally_any w.heap.size g id n t c r ms w1 ⟨unhide HCL 0 _ rfl, unhide HCL 1 _ rfl, unhide HCL 2 _ rfl⟩ ((unhide HR).below (unhide HB)) hms ht0 htn hn hq).mono ?_
  rintro e w2 ⟨rfl, hb2⟩
  have hlt : w.heap.size < w1.heap.size := by rw [unhide HZ]; omega
  have kk : ∀ j v, w1.cell? ⟨w.heap.size, j, none⟩ = some v → w2.cell? ⟨w.heap.size, j, none⟩ = some v := fun j v h => (hb2.cell (p := ⟨w.heap.size, j, none⟩) hlt).trans h
  have k8 := kk 8 _ (unhide HCL 8 _ rfl)
  have k9 := kk 9 _ (unhide HCL 9 _ rfl)
  have k10 := kk 10 _ (unhide HCL 10 _ rfl)
  have k11 := kk 11 _ (unhide HCL 11 _ rfl)
  have k12 := kk 12 _ (unhide HCL 12 _ rfl)
  have k13 := kk 13 _ (unhide HCL 13 _ rfl)
  have HB2 := hide ((unhide HB).trans (hb2.mono (by omega)))
  clear hb2 kk HB HCL HZ hlt HR
  generalize hH : w.heap.size = H at *
  go_wp2
  go_quiet (fail)
  go_wp2
  refine bodyPost_ret (v := .tuple #[.int .i64 ch, .int .i64 cs, .bool d, .int .i64 dv, .int .i64 dr, .int .i64 ti]) (by simp [results, Try.results31, go_sem]) rfl ⟨rfl, by rw [hH]; exact below_drewN (unhide HB2) _⟩
end Go.Proofs.Qxb6603393a
