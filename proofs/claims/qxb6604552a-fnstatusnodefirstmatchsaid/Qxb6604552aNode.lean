import Derived.Test.Qxb6604552aFind
namespace Go.Proofs.Qxb6604552a
open Go.RowKit
open Extern.Stop (cell)
set_option linter.unusedSimpArgs false
set_option linter.unusedVariables false

/-- the status' cells: all zero but the nodes -/
def status (v : Value) : List Value := .int .u64 0 :: .pointer none :: (zero32 ++ [Value.pointer none, Value.slice none 0 0, v])

/-- what Node finds -/
def pick (ids : List UInt8) (ns : List Nd) : Option Nd := ns.find? (fun n => n.nid == ids)
/-- what Node gives -/
def NodeGot (ids : List UInt8) (ns : List Nd) (w w' : World) (e : Ending) : Prop := e = .returned (.tuple #[.agg ((pick ids ns).getD zeroNd).cells.toArray, .bool (pick ids ns).isSome]) ∧ Below w.heap.size w w'

theorem pick_none {ids : List UInt8} {ns : List Nd} (h : ∀ j (h : j < ns.length), (ns[j].nid == ids) = false) : pick ids ns = none := by
  unfold pick
  rw [List.find?_eq_none]
  intro x hx
  obtain ⟨j, hj, rfl⟩ := List.getElem_of_mem hx
  rw [h j hj]
  simp
theorem pick_some {ids : List UInt8} {ns : List Nd} {k : Nat} (hk : k < ns.length) (h : (ns[k].nid == ids) = true) (hj : ∀ j (h : j < ns.length), j < k → (ns[j].nid == ids) = false) : pick ids ns = some ns[k] := by
  unfold pick
  rw [List.find?_eq_some_iff_getElem]
  exact ⟨h, k, hk, rfl, fun j hjk => by rw [hj j (by omega) hjk]; rfl⟩

theorem idx_exists (ids : List UInt8) : ∀ ns : List Nd, ∃ v, Idx ids ns v
  | [] => ⟨-1, Or.inl ⟨rfl, fun j h => by simp at h⟩⟩
  | n :: ns => by
    cases hn : (n.nid == ids)
    · obtain ⟨v, hv⟩ := idx_exists ids ns
      rcases hv with ⟨rfl, h⟩ | ⟨k, hk, rfl, h1, h2⟩
      · refine ⟨-1, Or.inl ⟨rfl, fun j hj => ?_⟩⟩
        cases j with
        | zero => exact hn
        | succ j => exact h j (by simpa using hj)
      · refine ⟨_, Or.inr ⟨k + 1, by simpa using hk, rfl, h1, fun j hj hjk => ?_⟩⟩
        cases j with
        | zero => exact hn
        | succ j => exact h2 j (by simpa using hj) (by omega)
    · exact ⟨_, Or.inr ⟨0, by simp, rfl, hn, fun j hj hjk => by omega⟩⟩
theorem idx_unique {ids : List UInt8} {ns : List Nd} {v v' : Int} (h : Idx ids ns v) (h' : Idx ids ns v') : v = v' := by
  rcases h with ⟨rfl, a⟩ | ⟨k, hk, rfl, a1, a2⟩ <;> rcases h' with ⟨rfl, b⟩ | ⟨m, hm, rfl, b1, b2⟩
  · rfl
  · rw [a m hm] at b1; cases b1
  · rw [b k hk] at a1; cases a1
  · rcases Nat.lt_trichotomy k m with h | h | h
    · rw [b2 k hk h] at a1; cases a1
    · rw [h]
    · rw [a2 m hm h] at b1; cases b1

theorem status_nodes (v : Value) : (status v)[37]? = some v := rfl
theorem status_len (v : Value) : (status v).length = 38 := rfl

/-- the two results: a struct in its block, a bool -/
theorem results11 (w : World) (tmps : Array Value) (b : Nat) (n : Nd) (hn : n.Wf) (r : Bool) (h4 : tmps.getD 4 undef = .pointer (some ⟨b, 0, none⟩)) (h5 : tmps.getD 5 undef = .bool r) (hr : w.rangeAt b 0 n.cells) :
    (results Try.f11 tmps).run Try.prog w = .ok (.tuple #[.agg n.cells.toArray, .bool r]) w := by
  have h4' : tmps[4]?.getD undef = .pointer (some ⟨b, 0, none⟩) := by simpa using h4
  have h5' : tmps[5]?.getD undef = .bool r := by simpa using h5
  have hl := run_loadVar_mid (P := Try.prog) w b 0 38 n.cells _ hr Try.underlying38 rfl (by rw [isz38, n.length hn])
  have hres : Try.f11.results = #[.cell 4 38, .tmp 5] := rfl
  simp [results, hres, h4', h5', asAddr, hl]

set_option maxHeartbeats 2000000 in
set_option maxRecDepth 100000 in
theorem node_any (o : Option Addr) (c : Nat) (ns : List Nd) (ids : List UInt8) (hid : ids.length = 32) (w : World) (hlen : ns.length ≤ 65536) (hr : RowsAt w o ns) :
    Calls Try.prog 11 #[.agg (status (.slice o ns.length c)).toArray, .agg (ids.map cell).toArray] w fun e w' => NodeGot ids ns w w' e := by
  have hz := zero38.1
  have hmf : ∀ (fn : Fn) (first cap : Array Value) (w : World), (Instr.makeFunc fn first cap).run Try.prog w = .ok (.func fn first cap) w := fun _ _ _ _ => rfl
  generalize hS : (status (.slice o ns.length c)) = S at *
  have hS37 : S[37]? = some (.slice o ns.length c) := by rw [← hS]; rfl
  have hw3 : ∃ w3, w3 = ((w.alloc (.cells S.toArray 35)).alloc (.cells (ids.map cell).toArray 30)).alloc (.cells zeroNd.cells.toArray 38) := ⟨_, rfl⟩
  obtain ⟨w3, hw3⟩ := hw3
  have s1 : (w.alloc (.cells S.toArray 35)).heap.size = w.heap.size + 1 := size_alloc _ _
  have s2 : ((w.alloc (.cells S.toArray 35)).alloc (.cells (ids.map cell).toArray 30)).heap.size = w.heap.size + 1 + 1 := by rw [size_alloc, s1]
  have s3 : w3.heap.size = w.heap.size + 1 + 1 + 1 := by rw [hw3, size_alloc, s2]
  have b3 : Below w.heap.size w w3 := by
    rw [hw3]
    exact (((Below.refl w.heap.size w).alloc (Nat.le_refl _) _).alloc (by rw [s1]; omega) _).alloc (by rw [s2]; omega) _
  have hc37 : w3.cell? ⟨w.heap.size, 37, none⟩ = some (.slice o ns.length c) := by
    have h0 := range_new w S 35
    have h1 := World.rangeAt_alloc (World.rangeAt_alloc h0 (.cells (ids.map cell).toArray 30)) (.cells zeroNd.cells.toArray 38)
    rw [← hw3] at h1
    have := h1 37 _ hS37
    rwa [Nat.zero_add] at this
  have hids : w3.rangeAt (w.heap.size + 1) 0 (ids.map cell) := by
    have h0 := range_new (w.alloc (.cells S.toArray 35)) (ids.map cell) 30
    rw [s1] at h0
    have h1 := World.rangeAt_alloc h0 (.cells zeroNd.cells.toArray 38)
    rwa [← hw3] at h1
  have hthere : w3.there (w.heap.size + 1 + 1) 0 131 := by
    have h0 := there_new ((w.alloc (.cells S.toArray 35)).alloc (.cells (ids.map cell).toArray 30)) zeroNd.cells 38
    rw [s2, ← hw3, zeroNd.length zeroNd_wf] at h0
    exact h0
  have hrow3 := hr.kept b3
  obtain ⟨v0, hv0⟩ := idx_exists ids ns
  have hix : Calls Try.prog 28 #[.slice o ns.length c, .func (.func 29) #[] #[.pointer (some ⟨w.heap.size + 1, 0, none⟩)]] w3 fun e w' => e = .returned (.int .i64 v0) ∧ Below w3.heap.size w3 w' :=
    (index_any o c ns ids hid (w.heap.size + 1) w3 hlen hrow3 (by omega) hids).mono fun e w' ⟨v, he, hv, hb⟩ => ⟨by rw [he, idx_unique hv hv0], hb⟩
  clear hids hr hS
  clear hS37
  have HROW := hide hrow3
  clear hrow3
  rw [hw3] at hc37 hix
  rcases hv0 with ⟨rfl, hnone⟩ | ⟨k, hk, rfl, hm, hnone⟩
  · have hp := pick_none hnone
    clear hnone
    go_enter Try.func11, Try.ntmps11
    go_wp2_with (first
      | (go_at_call 28; refine hix.mono ?_; rintro e w4 ⟨rfl, hb4⟩)
      | (refine wpList_build rfl 38 _ rfl #[] (by simp) _ (build38z _) ?_)
      | (refine wpList_store_mid rfl 38 _ _ rfl _ _ zeroNd.cells.toArray rfl rfl (by rw [zeroNd.arr zeroNd_wf]; rw [← hw3] at hb4; exact there_below hthere hb4 (by omega)) (by rw [isz38, zeroNd.arr zeroNd_wf]) zeroNd.arrOne ?_))
    rw [← hw3] at hb4
    have ht4 := there_below hthere hb4 (by omega)
    have hrg := World.rangeAt_setCells_same w4 (w.heap.size + 1 + 1) 0 zeroNd.cells (by rw [zeroNd.length zeroNd_wf]; exact ht4)
    refine bodyPost_ret (results11 _ _ (w.heap.size + 1 + 1) zeroNd zeroNd_wf false rfl rfl hrg) rfl ⟨by rw [hp]; rfl, ?_⟩
    exact below_setCells _ (by omega) _ _ _ (b3.trans (hb4.mono (by omega)))
  · have hp := pick_some hk hm hnone
    clear hnone hm
    obtain ⟨b, off, eo, hbl, hwk, hrk⟩ := unhide HROW k hk
    cases eo
    have hlk := Nd.length _ hwk
    have hkl : (k : Int) < (ns.length : Int) := by omega
    generalize hnk : ns[k] = nk at *
    go_enter Try.func11, Try.ntmps11
    go_wp2_with (first
      | (go_at_call 28; refine hix.mono ?_; rintro e w4 ⟨rfl, hb4⟩; have hc4 := (hb4.cell (World.block_lt_of_cell? _ _ hc37)).trans hc37; rw [← hw3] at hb4; have hr4 := rangeAt_below hrk hb4 hbl)
      | (refine wpList_load_mid rfl 38 _ rfl _ _ rfl nk.cells _ hr4 Try.underlying38 rfl (by rw [isz38, hlk]) ?_)
      | (refine wpList_store_mid rfl 38 _ _ rfl _ _ nk.cells.toArray rfl rfl (by rw [nk.arr hwk]; exact there_below hthere hb4 (by omega)) (by rw [isz38, nk.arr hwk]) nk.arrOne ?_))
    have ht4 := there_below hthere hb4 (by omega)
    have hrg := World.rangeAt_setCells_same w4 (w.heap.size + 1 + 1) 0 nk.cells (by rw [hlk]; exact ht4)
    refine bodyPost_ret (results11 _ _ (w.heap.size + 1 + 1) nk hwk true rfl rfl hrg) rfl ⟨by rw [hp]; rfl, ?_⟩
    exact below_setCells _ (by omega) _ _ _ (b3.trans (hb4.mono (by omega)))
end Go.Proofs.Qxb6604552a
