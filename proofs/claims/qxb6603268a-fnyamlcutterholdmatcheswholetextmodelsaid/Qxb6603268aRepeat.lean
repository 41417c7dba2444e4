import Derived.Test.Qxb6603268aClone
import Derived.Lib.MakeNoZero
import Derived.Laws.CopyOwn
import Derived.Laws.MathBits
import Derived.Deep.RegionLaw
namespace Go.Proofs.Qxb6603268a
open Go.RowKit

theorem ret_tuple2 {a b a' b' : Value} (h : a = a') (h' : b = b') : Ending.returned (.tuple #[a, b]) = .returned (.tuple #[a', b']) := by rw [h, h']

theorem mul64_one (n : Int) (h0 : 0 ≤ n) (h1 : n ≤ 4294967295) (w : World) : Calls Try.prog 39 #[.int .u64 1, .int .u64 n] w fun e w' => e = .returned (.tuple #[.int .u64 0, .int .u64 n]) ∧ w = w' := by
  have e1 : bits .and .u64 1 4294967295 = 1 := by rw [and_low32 1 (by omega) (by omega)]; rfl
  have e0 : bits .and .u64 0 4294967295 = 0 := by rw [and_low32 0 (by omega) (by omega)]; rfl
  have en : bits .and .u64 n 4294967295 = n := by rw [and_low32 n (by omega) (by omega)]; omega
  have ed : n / 4294967296 = 0 := by omega
  have ew : IntKind.u64.wrap n = n := by rw [IntKind.wrap_u64]; omega
  have ew0 : IntKind.u64.wrap 0 = 0 := by rw [IntKind.wrap_u64]; omega
  go_enter Try.func39, Try.ntmps39
  go_wp2
  go_ret2
  exact ⟨rfl, rfl⟩

theorem mul_one (n : Int) (h0 : 0 ≤ n) (h1 : n ≤ 4294967295) (w : World) : Calls Try.prog 36 #[.int .u64 1, .int .u64 n] w fun e w' => e = .returned (.tuple #[.int .u64 0, .int .u64 n]) ∧ w = w' := by
  go_enter Try.func36, Try.ntmps36
  go_wp2_with (go_at_call 39; refine (mul64_one n h0 h1 _).mono ?_; rintro e w' ⟨rfl, rfl⟩)
  go_ret2
  exact ⟨rfl, rfl⟩

/-- the model's entry for bytealg.MakeNoZero at this program -/
theorem run_mnz (n : Nat) (hn : n ≤ 281474976710656) (w : World) :
    ∃ cs : Array Value, (callFunc 37 #[.int .i64 n]).run Try.prog w = .ok (.value (.slice (some ⟨w.heap.size, 0, none⟩) n cs.size)) (w.drew.drew.alloc (.cells cs 5)) ∧ n ≤ cs.size := by
  obtain ⟨cs, hrun, hle, _⟩ := Lib.run_makeNoZero (P := Try.prog) w #[3] 25 5 Try.underlying25 n hn
  refine ⟨cs, ?_, hle⟩
  rw [run_callFunc_extern Try.func37 (by kernel_rfl) (by kernel_rfl) (by kernel_rfl) (e := Extern.BytealgMakeNoZero.makeNoZero #[3] #[25]) (by kernel_rfl), hrun]
  rfl

/-- the first m bytes of the new row g are b; below B the world is as it was -/
def Filled (w0 : World) (B g N : Nat) (b : Int) (m : Nat) (w : World) : Prop :=
  ∃ cur : Array Value, w.heap[g]? = some (.cells cur 5 (0, 0)) ∧ N ≤ cur.size ∧ (∀ j, j < m → cur[j]? = some (.int .u8 b)) ∧ Below B w0 w ∧ B ≤ g

theorem Filled.cell {w0 w : World} {B g N m : Nat} {b : Int} (h : Filled w0 B g N b m w) {j : Nat} (hj : j < m) : w.cell? ⟨g, j, none⟩ = some (.int .u8 b) := by
  obtain ⟨cur, hg, _, hc, _⟩ := h
  rw [cell_of_row w g j cur 5 (0, 0) hg]
  exact hc j hj

theorem Filled.drew {w0 w : World} {B g N m : Nat} {b : Int} (h : Filled w0 B g N b m w) : Filled w0 B g N b m w.drew := by
  obtain ⟨cur, hg, h1, h2, h3, h4⟩ := h
  exact ⟨cur, hg, h1, h2, h3.drew, h4⟩

theorem run_fill (w0 w : World) (B g N m : Nat) (b : Int) (h : Filled w0 B g N b m w) (ty : TypeId) (dl dc sl sc : Nat) (a : Addr) (hsrc : ∀ j, j < Nat.min sl dl → w.cell? (a.add j) = some (.int .u8 b)) (hfit : m + dl ≤ N) :
    ∃ w', (Builtin.copy_ #[25, 25] ty #[.slice (some ⟨g, m, none⟩) dl dc, .slice (some a) sl sc]).run Try.prog w = .ok (goInt (Nat.min sl dl)) w' ∧ Filled w0 B g N b (m + Nat.min sl dl) w' := by
  obtain ⟨cur, hg, h1, h2, h3, h4⟩ := h
  have hk : Nat.min sl dl ≤ dl := Nat.min_le_right _ _
  generalize hkk : Nat.min sl dl = k at *
  have hr := run_copy_row (P := Try.prog) w 25 25 ty 5 g m dl dc a sl sc cur 5 (List.replicate k (.int .u8 b)) Try.underlying25 (by kernel_rfl) hg (by simp [hkk]) (fun j v hj => by
    rw [List.getElem?_replicate] at hj
    split at hj
    · cases hj; exact hsrc j (by assumption)
    · cases hj) (by simp; omega) (fun v hv => by rw [List.eq_of_mem_replicate hv]; rfl)
  rw [List.length_replicate] at hr
  refine ⟨_, hr, _, setRow_heap w g _ _ 5 _ hg, ?_, ?_, below_setRow h3 h4 _, h4⟩
  · simp; omega
  · intro j hj
    simp only [List.getElem?_toArray, List.append_assoc]
    by_cases hjm : j < m
    · rw [List.getElem?_append_left (by simp; omega), List.getElem?_take, if_pos hjm, Array.getElem?_toList]
      exact h2 j hjm
    · rw [List.getElem?_append_right (by simp; omega), List.getElem?_append_left (by simp; omega), List.getElem?_replicate, if_pos (by simp; omega)]

theorem wpList_fill {w : World} {ops : Array Oper} {rest : List Oper} {o : Oper} {a : Act} {Q : Exit → Act → World → Prop} (hgd : o.guard = none) (d s : Operand)
    (ho : o.op = .call { callee := .builtin .copy, args := #[d, s], argTypes := #[25, 25] }) (w0 : World) (B g N m : Nat) (b : Int) (hf : Filled w0 B g N b m w) (dl dc sl sc : Nat) (ad : Addr)
    (hd : a.eval d = .slice (some ⟨g, m, none⟩) dl dc) (hs : a.eval s = .slice (some ad) sl sc) (hsrc : ∀ j, j < Nat.min sl dl → w.cell? (ad.add j) = some (.int .u8 b)) (hfit : m + dl ≤ N)
    (h : ∀ w', Filled w0 B g N b (m + Nat.min sl dl) w' → wpList Try.prog ops Q rest (a.put o.dst (goInt (Nat.min sl dl))) w') : wpList Try.prog ops Q (o :: rest) a w := by
  refine wpList_plain hgd fun K hK => ?_
  obtain ⟨w', hrun, hf'⟩ := run_fill w0 w B g N m b hf o.type dl dc sl sc ad hsrc hfit
  unfold Oper.wp
  simp [execOp, ho, resolve, invoke, builtin, hd, hs, hrun, Result.andThen]
  exact hK _ _ (h w' hf')

theorem step_fill {ops : Array Oper} {o : Oper} {a : Act} {w : World} {K : Act → World → Prop} {Q : Exit → Act → World → Prop} {E : Prop} (hgd : o.guard = none) (d s : Operand)
    (ho : o.op = .call { callee := .builtin .copy, args := #[d, s], argTypes := #[25, 25] }) (w0 : World) (B g N m : Nat) (b : Int) (hf : Filled w0 B g N b m w) (dl dc sl sc : Nat) (gs : Nat)
    (hd : a.eval d = .slice (some ⟨g, m, none⟩) dl dc) (hs : a.eval s = .slice (some ⟨gs, 0, none⟩) sl sc) (q : Nat) (hq : Hid (Nat.min sl dl = q)) (hsrc : ∀ j, j < q → w.cell? ⟨gs, j, none⟩ = some (.int .u8 b)) (hfit : m + dl ≤ N)
    (h : ∀ w', Filled w0 B g N b (m + q) w' → K (a.put o.dst (goInt q)) w') :
    if Region.wanted o (yielded ops a.tmps) = true then Oper.wp Try.prog o a w K Q else E := by
  have hq' : Nat.min sl dl = q := hq
  clear hq
  subst hq'
  have hw : Region.wanted o (yielded ops a.tmps) = true := by simp [Region.wanted, hgd]
  rw [if_pos hw]
  obtain ⟨w', hrun, hf'⟩ := run_fill w0 w B g N m b hf o.type dl dc sl sc ⟨gs, 0, none⟩ (fun j hj => by rw [show (⟨gs, 0, none⟩ : Addr).add j = ⟨gs, j, none⟩ from by unfold Addr.add; split <;> simp_all]; exact hsrc j hj) hfit
  unfold Oper.wp
  simp [execOp, ho, resolve, invoke, builtin, hd, hs, hrun, Result.andThen]
  exact h w' hf'

theorem Filled.start (w0 w : World) (cs : Array Value) (N : Nat) (b : Int) (h : N ≤ cs.size) (hb : Below w0.heap.size w0 w) (hs : w.heap.size = w0.heap.size) : Filled w0 w0.heap.size w0.heap.size N b 0 (w.alloc (.cells cs 5)) :=
  ⟨cs, by rw [← hs]; exact heap_alloc_new w _, h, fun j hj => by omega, hb.alloc (by omega) _, Nat.le_refl _⟩

set_option maxHeartbeats 1000000 in
theorem repeat_any (g n : Nat) (b : Int) (w : World) (hn0 : 0 < n) (hn : n ≤ 16777216) (hc : w.cell? ⟨g, 0, none⟩ = some (.int .u8 b)) :
    Calls Try.prog 34 #[.slice (some ⟨g, 0, none⟩) 1 1, .int .i64 n] w fun e w' => e = .returned (.slice (some ⟨w.heap.size, 0, none⟩) n n) ∧ Filled w w.heap.size w.heap.size n b n w' := by
  obtain ⟨cs, hmnz, hcs⟩ := run_mnz n (by omega) w
  have hz : ((n : Int) == 0) = false := by simp; omega
  have hst : Filled w w.heap.size w.heap.size n b 0 (w.alloc (.cells cs 5)).drew.drew := (Filled.start w w cs n b hcs (Below.refl _ _) rfl).drew.drew
  have hcA : (w.alloc (.cells cs 5)).drew.drew.cell? ⟨g, 0, none⟩ = some (.int .u8 b) := by
    obtain ⟨_, _, _, _, hb, _⟩ := hst
    exact (hb.cell (World.block_lt_of_cell? w _ hc)).trans hc
  have h1n : Nat.min 1 n = 1 := Nat.min_eq_left hn0
  obtain ⟨w1, hcp, hf1⟩ := run_fill w (w.alloc (.cells cs 5)).drew.drew w.heap.size w.heap.size n 0 b hst 3 n n 1 1 ⟨g, 0, none⟩ (fun j hj => by
    have hj0 : j = 0 := by rw [h1n] at hj; omega
    subst hj0; exact hcA) (by omega)
  rw [h1n, Nat.zero_add] at hf1
  rw [h1n] at hcp
  clear hst hcA h1n
  have HF := hide hf1
  clear hf1
  obtain ⟨cm, hcm, hcm1, hcm2⟩ : ∃ cm : Nat, cm = (if 8192 < n then 8192 else n) ∧ 1 ≤ cm ∧ cm ≤ n := ⟨_, rfl, by split <;> omega, by split <;> omega⟩
  have hcase : (8192 < n ∧ decide ((8192 : Int) < (n : Int)) = true ∧ cm = 8192) ∨ (¬ 8192 < n ∧ decide ((8192 : Int) < (n : Int)) = false ∧ n = cm) := by
    by_cases h : 8192 < n
    · exact Or.inl ⟨h, decide_eq_true (by omega), by rw [if_pos h] at hcm; exact hcm⟩
    · exact Or.inr ⟨h, decide_eq_false (by omega), by rw [if_neg h] at hcm; exact hcm.symm⟩
  clear hcm
  rcases hcase with ⟨hbig, hbB, rfl⟩ | ⟨hbig, hbB, rfl⟩
  all_goals
    go_enter Try.func34, Try.ntmps34
    go_wp2_with (first | (go_at_call 36; refine (mul_one _ (by omega) (by omega) _).mono ?_; rintro e w' ⟨rfl, rfl⟩))
    clear hcp hmnz
    go_loopw [10] (fun i wr => ∃ k : Nat, 1 ≤ k ∧ k ≤ n ∧ i = .int .i64 k ∧ Filled w w.heap.size w.heap.size n b k wr) (fun i _ => n - (intOf i).toNat)
    case atStart => exact ⟨1, Nat.le_refl _, hn0, rfl, unhide HF⟩
    case round =>
      obtain ⟨k, hk1, hkn, rfl, hat⟩ := hrel
      clear HF
      by_cases hlt : k < n
      · have hne : ¬ n = k := by omega
        have hnk : (k : Int) ≤ (n : Int) := by omega
        rcases Nat.lt_or_ge 8192 k with hm | hm
        · first
          | omega
          | (have h8 : (8192 : Int) ≤ (n : Int) := by omega
             obtain ⟨q, hq, hq1, hq2, hq3⟩ : ∃ q, Hid (Nat.min 8192 (n - k) = q) ∧ 1 ≤ q ∧ q ≤ n - k ∧ q ≤ k := ⟨_, rfl, Nat.le_min.2 ⟨by omega, by omega⟩, Nat.min_le_right _ _, Nat.le_trans (Nat.min_le_left 8192 (n - k)) (by omega)⟩
             have hwr : IntKind.i64.wrap ((k : Int) + (q : Int)) = (k : Int) + (q : Int) := by rw [IntKind.wrap_i64]; omega
             go_wp2
             go_region_law (refine step_fill rfl (.tmp 70) (.tmp 73) rfl w w.heap.size w.heap.size n k b hat.drew (n - k) (n - k) 8192 n w.heap.size (by simp [Act.eval, Act.put]) (by simp [Act.eval, Act.put]) q hq (fun j hj => hat.drew.cell (j := j) (by omega)) (by omega) ?_; intro w2 hf2; simp only [Act.put, List.setIfInBounds_toArray, goInt])
             have HF := hide hf2
             clear hf2 hat hq
             simp only [List.getElem_toArray, List.getElem_cons_succ, List.getElem_cons_zero, Act.put, List.setIfInBounds_toArray, List.set_cons_zero, List.set_cons_succ]
             go_wp2
             go_roundw
             case rel => exact ⟨k + q, by omega, by omega, by go_num, unhide HF⟩
             case measure => simp [intOf]; omega)
        · obtain ⟨q, hq, hq1, hq2, hq3⟩ : ∃ q, Hid (Nat.min k (n - k) = q) ∧ 1 ≤ q ∧ q ≤ n - k ∧ q ≤ k := ⟨_, rfl, Nat.le_min.2 ⟨by omega, by omega⟩, Nat.min_le_right _ _, Nat.min_le_left k (n - k)⟩
          have hwr : IntKind.i64.wrap ((k : Int) + (q : Int)) = (k : Int) + (q : Int) := by rw [IntKind.wrap_i64]; omega
          go_wp2
          go_region_law (refine step_fill rfl (.tmp 70) (.tmp 73) rfl w w.heap.size w.heap.size n k b hat.drew (n - k) (n - k) k n w.heap.size (by simp [Act.eval, Act.put]) (by simp [Act.eval, Act.put]) q hq (fun j hj => hat.drew.cell (j := j) (by omega)) (by omega) ?_; intro w2 hf2; simp only [Act.put, List.setIfInBounds_toArray, goInt])
          have HF := hide hf2
          clear hf2 hat hq
          simp only [List.getElem_toArray, List.getElem_cons_succ, List.getElem_cons_zero, Act.put, List.setIfInBounds_toArray, List.set_cons_zero, List.set_cons_succ]
          go_wp2
          go_roundw
          case rel => exact ⟨k + q, by omega, by omega, by go_num, unhide HF⟩
          case measure => simp [intOf]; omega
      · obtain rfl : k = n := by omega
        have HF := hide hat
        clear hat
        go_wp2
        go_ret
        exact ⟨rfl, unhide HF⟩
end Go.Proofs.Qxb6603268a
