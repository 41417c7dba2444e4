import Derived.Test.Qxb6604552aFill
namespace Go.Proofs.Qxb6604552a
open Go.RowKit
open Extern.Stop (cell)
set_option linter.unusedSimpArgs false
set_option linter.unusedVariables false

/-- a row that was made just now -/
theorem range_new (w : World) (cs : List Value) (t : Nat) : (w.alloc (.cells cs.toArray t)).rangeAt w.heap.size 0 cs := fun j v hv => by
  rw [cell_of_row _ _ (0 + j) cs.toArray t _ (new_alloc w _)]
  simpa using hv
theorem there_new (w : World) (cs : List Value) (t : Nat) : (w.alloc (.cells cs.toArray t)).there w.heap.size 0 cs.length := fun j hj => by
  constructor
  · rw [cell_of_row _ _ (0 + j) cs.toArray t _ (new_alloc w _)]
    simp
    omega
  · unfold World.frozen?
    rw [new_alloc]
    simp

/-- a whole struct into the block that was made last -/
theorem wpList_store_new {P : Program} {ops : Array Oper} {rest : List Oper} {op : Oper} {a : Act} {w1 : World} {Q : Exit → Act → World → Prop} (hgd : op.guard = none) (ty : TypeId) (x y : Operand) (ho : op.op = .store ty x y)
    (c c' : Array Value) (b : Nat) (hx : a.eval x = .pointer (some ⟨b, 0, none⟩)) (hy : a.eval y = .agg c') (hb : b = w1.heap.size)
    (hi : (P.info? ty).map (·.size) = some c'.size) (hs : c.size = c'.size) (h1 : c'.all (·.oneCell') = true)
    (h : wpList P ops Q rest (a.put op.dst undef) (w1.alloc (.cells c' ty))) : wpList P ops Q (op :: rest) a (w1.alloc (.cells c ty)) :=
  wpList_plain hgd fun _ hK => by
    subst hb
    unfold Oper.wp execOp
    simp only [ho, hx, hy, Sem.run_bind, run_storeAt_new w1 ty c c' hi hs h1, Result.andThen_ok]
    exact hK _ _ h

theorem Nd.arr (n : Nd) (h : n.Wf) : n.cells.toArray.size = 131 := by rw [List.size_toArray, n.length h]
theorem Nd.arrOne (n : Nd) : n.cells.toArray.all (·.oneCell') = true := all_oneCell_toArray n.one

set_option maxHeartbeats 2000000 in
set_option maxRecDepth 100000 in
theorem nodeOf_any (n : Nd) (hn : n.Wf) (w : World) : Calls Try.prog 12 #[.agg n.cells.toArray] w fun e w' => e = .returned (.agg n.cells.toArray) ∧ Below w.heap.size w w' := by
  have hz := zero38.1
  have hN : NdAt ((w.alloc (.cells n.cells.toArray 42)).alloc (.cells zeroNd.cells.toArray 38)) w.heap.size 0 n := NdAt.of hn (World.rangeAt_alloc (range_new w n.cells 42) _)
  have HN := hide hN
  have c1 := hN.back
  have c2 := hN.ok
  have c3 := hN.addr
  rw [Nat.zero_add] at c1 c2 c3
  clear hN
  go_enter Try.func12, Try.ntmps12
  go_wp2_with (first
    | (refine wpList_load_mid rfl 23 _ rfl _ _ rfl (n.nid.map cell) _ (unhide HN).nid Try.underlying23 rfl (by rw [isz23, List.length_map, hn.nid]) ?_)
    | (refine wpList_load_mid rfl 23 _ rfl _ _ rfl (n.eid.map cell) _ (unhide HN).eid Try.underlying23 rfl (by rw [isz23, List.length_map, hn.eid]) ?_)
    | (refine wpList_load_mid rfl 23 _ rfl _ _ rfl (n.rek.map cell) _ (unhide HN).rek Try.underlying23 rfl (by rw [isz23, List.length_map, hn.rek]) ?_)
    | (refine wpList_load_mid rfl 23 _ rfl _ _ rfl (n.reg.map cell) _ (unhide HN).reg Try.underlying23 rfl (by rw [isz23, List.length_map, hn.reg]) ?_)
    | (refine wpList_build rfl 32 _ rfl #[(0, .agg (n.rek.map cell).toArray), (1, .bool n.ok)] (by simp [go_sem]) _ (build32 n.rek n.ok hn.rek _) ?_)
    | (refine wpList_build rfl 38 _ rfl (nodeParts n) (by simp [go_sem, nodeParts]) _ (build38 n hn _) ?_)
    | (refine wpList_store_new rfl 38 _ _ rfl _ n.cells.toArray _ rfl rfl (size_alloc _ _).symm (by rw [isz38, n.arr hn]) (by rw [zeroNd.arr zeroNd_wf, n.arr hn]) n.arrOne ?_))
  refine bodyPost_ret (results_cell_row rfl _ _ (w.heap.size + 1) 38 _ _ _ rfl (heap_alloc2_new w _ _) Try.underlying38 rfl (by rw [isz38, n.arr hn])) rfl ⟨rfl, ?_⟩
  exact ((Below.refl w.heap.size w).alloc (Nat.le_refl _) _).alloc (by rw [size_alloc]; omega) _
end Go.Proofs.Qxb6604552a
