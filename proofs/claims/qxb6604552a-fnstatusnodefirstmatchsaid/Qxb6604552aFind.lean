import Derived.Test.Qxb6604552aNodes
namespace Go.Proofs.Qxb6604552a
open Go.RowKit
open Extern.Stop (cell)
set_option linter.unusedSimpArgs false
set_option linter.unusedVariables false

theorem isz5 : (Try.prog.info? 5).map (·.size) = some 1 := by kernel_rfl
theorem guard30 : Try.prog.eqGuardType Try.prog.depth 30 = false := by kernel_rfl
theorem guard23 : Try.prog.eqGuardType Try.prog.depth 23 = false := by kernel_rfl
theorem eq30 (xs ys : List UInt8) (hx : xs.length = 32) (hy : ys.length = 32) (w : World) : (Op.equalIn 10000 30 (.agg (xs.map cell).toArray) (.agg (ys.map cell).toArray)).run Try.prog w = .ok (xs == ys) w :=
  run_equalIn_bytes w 9998 30 5 32 Try.underlying30 Try.underlying5 (size_of isz5) xs ys hx hy
theorem eq23 (xs ys : List UInt8) (hx : xs.length = 32) (hy : ys.length = 32) (w : World) : (Op.equalIn 10000 23 (.agg (xs.map cell).toArray) (.agg (ys.map cell).toArray)).run Try.prog w = .ok (xs == ys) w :=
  run_equalIn_bytes w 9998 23 5 32 Try.underlying23 Try.underlying5 (size_of isz5) xs ys hx hy

set_option maxHeartbeats 2000000 in
set_option maxRecDepth 100000 in
theorem match_any (n : Nd) (hn : n.Wf) (ids : List UInt8) (hid : ids.length = 32) (bi : Nat) (w : World) (hc : w.rangeAt bi 0 (ids.map cell)) :
    Calls Try.prog 29 #[.agg n.cells.toArray, .pointer (some ⟨bi, 0, none⟩)] w fun e w' => e = .returned (.bool (n.nid == ids)) ∧ Below w.heap.size w w' := by
  have h1 := (NdAt.of hn (range_new w n.cells 38)).nid
  have h2 := World.rangeAt_alloc hc (.cells n.cells.toArray 38)
  have hq := eq30 n.nid ids hn.nid hid
  have hg := guard30
  go_enter Try.func29, Try.ntmps29
  go_wp2_with (first
    | (refine wpList_load_mid rfl 30 _ rfl _ _ rfl (n.nid.map cell) _ h1 Try.underlying30 rfl (by rw [isz30, List.length_map, hn.nid]) ?_)
    | (refine wpList_load_mid rfl 30 _ rfl _ _ rfl (ids.map cell) _ h2 Try.underlying30 rfl (by rw [isz30, List.length_map, hid]) ?_))
  go_ret
  exact ⟨rfl, (Below.refl w.heap.size w).alloc (Nat.le_refl _) _⟩

/-- the first node with the ID, or -1 -/
def Idx (ids : List UInt8) (ns : List Nd) (v : Int) : Prop := (v = -1 ∧ ∀ j (h : j < ns.length), (ns[j].nid == ids) = false) ∨
  ∃ k, ∃ h : k < ns.length, v = (k : Int) ∧ (ns[k].nid == ids) = true ∧ ∀ j (h : j < ns.length), j < k → (ns[j].nid == ids) = false
/-- what IndexFunc gives -/
def Found (ids : List UInt8) (ns : List Nd) (w w' : World) (e : Ending) : Prop := ∃ v, e = .returned (.int .i64 v) ∧ Idx ids ns v ∧ Below w.heap.size w w'
/-- the first k nodes have another ID -/
def NoneOf (ids : List UInt8) (ns : List Nd) (k : Nat) : Prop := ∀ j (h : j < ns.length), j < k → (ns[j].nid == ids) = false

set_option maxHeartbeats 2000000 in
set_option maxRecDepth 100000 in
theorem index_any (o : Option Addr) (c : Nat) (ns : List Nd) (ids : List UInt8) (hid : ids.length = 32) (bi : Nat) (w : World) (hlen : ns.length ≤ 65536) (hr : RowsAt w o ns) (hbi : bi < w.heap.size) (hc : w.rangeAt bi 0 (ids.map cell)) :
    Calls Try.prog 28 #[.slice o ns.length c, .func (.func 29) #[] #[.pointer (some ⟨bi, 0, none⟩)]] w fun e w' => Found ids ns w w' e := by
  have HR := hide hr
  have HC := hide hc
  clear hr hc
  go_enter Try.func28, Try.ntmps28
  go_wp2
  go_loopw [8] (fun i wr => ∃ k : Nat, k ≤ ns.length ∧ i = .int .i64 k ∧ NoneOf ids ns k ∧ Below w.heap.size w wr) (fun i _ => ns.length - (intOf i).toNat)
  case atStart => exact ⟨0, Nat.zero_le _, rfl, fun j h hj => by omega, Below.refl _ _⟩
  case round =>
    obtain ⟨k, hk, rfl, hnone, hbel⟩ := hrel
    by_cases hlt : k < ns.length
    · obtain ⟨b, off, e, q1, q2, q3⟩ := unhide HR k hlt
      have r3 := rangeAt_below q3 hbel q1
      have rc := rangeAt_below (unhide HC) hbel hbi
      have hw := q2
      have hlk := Nd.length _ q2
      cases e
      have HB := hide hbel
      have HN := hide hnone
      clear hbel hnone q1 q2 q3
      have hkl : (k : Int) < (ns.length : Int) := by omega
      generalize hnk : ns[k] = nk at *
      cases hmt : (nk.nid == ids)
      · go_wp2_with (first
          | (refine wpList_load_mid rfl 38 _ rfl _ _ rfl nk.cells _ r3 Try.underlying38 rfl (by rw [isz38, hlk]) ?_)
          | (go_at_call 29; refine (match_any nk hw ids hid bi _ rc).mono ?_; rintro e w2 ⟨rfl, hb2⟩))
        refine ⟨⟨k + 1, by omega, by go_num, fun j h hj => ?_, (unhide HB).trans (hb2.mono (unhide HB).size)⟩, by simp [intOf]; omega⟩
        by_cases e : j = k
        · subst e
          rw [hnk]
          exact hmt
        · exact unhide HN j h (by omega)
      · go_wp2_with (first
          | (refine wpList_load_mid rfl 38 _ rfl _ _ rfl nk.cells _ r3 Try.underlying38 rfl (by rw [isz38, hlk]) ?_)
          | (go_at_call 29; refine (match_any nk hw ids hid bi _ rc).mono ?_; rintro e w2 ⟨rfl, hb2⟩))
        go_ret
        exact ⟨_, rfl, Or.inr ⟨k, hlt, rfl, by rw [hnk]; exact hmt, unhide HN⟩, (unhide HB).trans (hb2.mono (unhide HB).size)⟩
    · obtain rfl : k = ns.length := by omega
      have HB := hide hbel
      have HN := hide hnone
      clear hbel hnone
      go_wp2
      go_ret
      exact ⟨_, rfl, Or.inl ⟨rfl, fun j h => unhide HN j h h⟩, unhide HB⟩
end Go.Proofs.Qxb6604552a
