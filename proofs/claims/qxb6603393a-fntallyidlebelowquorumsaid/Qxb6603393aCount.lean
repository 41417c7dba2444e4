import Derived.Test.Qxb6603393aNote
namespace Go.Proofs.Qxb6603393a
open Go.RowKit
set_option linter.unusedSimpArgs false
set_option linter.unusedVariables false

/-- the row of marks at gc -/
def Marks (w : World) (gc : Nat) (xs : List Bool) : Prop := ∃ cur : Array Value, w.heap[gc]? = some (.cells cur 4 (0, 0)) ∧ cur.toList = xs.map Value.bool
theorem Marks.src {w : World} {gc : Nat} {xs : List Bool} (h : Marks w gc xs) : Src w (some ⟨gc, 0, none⟩) (xs.map Value.bool) := fun j u hj => by
  obtain ⟨cur, h1, h2⟩ := h
  refine ⟨gc, 0, rfl, ?_⟩
  rw [Nat.zero_add, cell_of_row w gc j cur 4 _ h1, ← Array.getElem?_toList, h2]
  exact hj

/-- what ZZNoteCrashes gives -/
def ZZSays (w w' : World) (B gc L : Nat) (e : Ending) : Prop := ∃ xs, e = .returned (.int .i64 (cnt xs)) ∧ Marks w' gc xs ∧ xs.length = L ∧ Below B w w'

theorem size_alloc (w : World) (b : Obj) : (w.alloc b).heap.size = w.heap.size + 1 := by
  unfold World.alloc; simp only [Array.size_push]
theorem new_alloc (w : World) (b : Obj) : (w.alloc b).heap[w.heap.size]? = some b := by
  unfold World.alloc; simp only [Array.getElem?_push_size]

set_option maxRecDepth 100000 in
set_option maxHeartbeats 2000000 in
theorem zzNote_any (B gc L g : Nat) (n : Nat) (xs : List Bool) (r : Int) (ms : List CM) (w : World) (hm : Marks w gc xs) (hxl : xs.length = L) (hL : L ≤ 1048576) (hn : n ≤ 65536) (hnL : n + 1 ≤ L) (hms : ms.length ≤ 65536) (hlg : B ≤ gc) (hlw : B ≤ w.heap.size)
    (hg : ∃ cur : Array Value, w.heap[g]? = some (.cells cur 66 (0, 0)) ∧ ∀ i (h : i < ms.length), cur[i * 14 + 1]? = some (.int .i64 ms[i].sender) ∧ cur[i * 14 + 4]? = some (.slice ms[i].o ms[i].halt.length ms[i].cap))
    (hh : ∀ i (h : i < ms.length), SrcB w B ms[i].o (ms[i].halt.map (Value.int .i64)) ∧ ms[i].halt.length ≤ maxLen ∧ MsgOk n L ms[i]) :
    Calls Try.prog 17 #[.int .i64 n, .slice (some ⟨gc, 0, none⟩) L L, .int .i64 (cnt xs), .int .i64 r, .slice (some ⟨g, 0, none⟩) ms.length ms.length] w fun e w' => ZZSays w w' B gc L e := by
  have HM := hide hm
  have HG := hide hg
  have HH := hide hh
  have HX := hide hxl
  clear hm hg hh hxl
  generalize hc : cnt xs = c
  have HCN := hide hc
  clear hc
  go_enter Try.func17, Try.ntmps17
  have hgl : g < w.heap.size := by obtain ⟨cur, hg1, _⟩ := unhide HG; exact lt_of_block hg1
  have hgc : gc < w.heap.size := by obtain ⟨cur, hg1, _⟩ := unhide HM; exact lt_of_block hg1
  have hkeep : ∀ (b : Obj), ∀ k, k < w.heap.size → (w.alloc b).heap[k]? = w.heap[k]? := fun b k hk => Below.heap_alloc w b k hk
  have hb0 := fun (b : Obj) => (Below.refl w.heap.size w).alloc (Nat.le_refl _) b
  have hb1 := fun (b : Obj) => (Below.refl B w).alloc hlw b
  have hsz : ∀ (b : Obj), (w.alloc b).heap.size = w.heap.size + 1 := fun b => size_alloc w b
  have HK := hide hkeep
  have HB := hide hb0
  have HB1 := hide hb1
  have HSZ := hide hsz
  clear hkeep hb0 hb1 hsz
  go_wp2_with fail
  go_at_call 30
  refine (noteCrashes_any B w.heap.size gc L g n xs r ms _ ⟨⟨_, new_alloc _ _, rfl, rfl, by rw [unhide HCN]; rfl⟩, ?_, unhide HX⟩ hL hn hnL hms hlw hlg ?_ ?_ ?_).mono ?_
  · obtain ⟨cur, h1, h2⟩ := unhide HM
    exact ⟨cur, (unhide HK _ gc hgc).trans h1, h2⟩
  · rw [unhide HSZ]; omega
  · obtain ⟨cur, h1, h2⟩ := unhide HG
    exact ⟨cur, (unhide HK _ g hgl).trans h1, h2⟩
  · intro i hi
    obtain ⟨h1, h2, h3⟩ := unhide HH i hi
    refine ⟨fun j u hj => ?_, h2, h3⟩
    obtain ⟨b, off, e, hb, hc⟩ := h1 j u hj
    exact ⟨b, off, e, hb, ((unhide HB1 _).cell (p := ⟨b, off + j, none⟩) hb).trans hc⟩
  · rintro e w2 ⟨rfl, ⟨ys, hnc⟩, hkept⟩
    have c13 := hnc.c13
    have hbw := (unhide HB1 _).trans (hkept.below (by rw [unhide HSZ]; omega) hlw hlg)
    have HW := hide hbw
    have HNC := hide hnc
    clear hbw hnc hkept
    go_wp2
    go_ret
    exact ⟨ys, rfl, (unhide HNC).row, (unhide HNC).len, unhide HW⟩
end Go.Proofs.Qxb6603393a
