import Derived.Test.Qxb6603393aRows
import Derived.Test.Qxb6603393aLawCount
import Derived.ProofKit
import Derived.OpenShut
import Derived.ShutString
import Derived.ChangeOld
import Derived.Below
import Derived.Deep.Grids
import Derived.Deep.Slices
namespace Go.Proofs.Qxb6603393a
open Go.ChangeShapes Go.WideShapes Go.ChangeAt Go.RowKit Go.Deep
set_option linter.unusedVariables false

theorem own : ownKnob Try.prog.godebug = none := by kernel_rfl
theorem laidOut : laidOutB Try.prog = true := by kernel_rfl

/-- what the walk is told of a slice that came in: its elements xs, the address of its cells -/
def ArgRow {α : Type} (f : α → Value) (w : World) (o : Option Addr) (len cap : Nat) (xs : List α) : Prop :=
  len = xs.length ∧ xs.length ≤ maxLen ∧ (o = none → xs = [] ∧ cap = 0) ∧ Src w o (xs.map f)

theorem src_of_cells {α : Type} (f : α → Value) {w : World} {a : Addr} {len : Nat} {xs : List α} (hl : xs.length = len) (hc : ∀ i (h : i < xs.length), w.cell? (a.add i) = some (f xs[i])) : Src w (some a) (xs.map f) := fun j u hj => by
  rw [List.getElem?_map] at hj
  have hjl : j < xs.length := by
    rcases Nat.lt_or_ge j xs.length with h' | h'
    · exact h'
    · rw [List.getElem?_eq_none h'] at hj; cases hj
  rw [List.getElem?_eq_getElem hjl] at hj
  cases hj
  obtain ⟨b, off, spot⟩ := a
  have h0 := hc j hjl
  have hspot : spot = none := by
    have h00 := World.cell?_spot (hc 0 (by omega))
    simpa [Addr.add] using h00
  subst hspot
  exact ⟨b, off, rfl, by rw [← add_plain]; exact h0⟩

theorem cells_ints {H : Type} {enc : TypeId × Value → H} {W : World} {t e : TypeId} {k : IntKind} (ht : Try.prog.underlying t = some (.slice e)) (he : Try.prog.underlying e = some (.int k)) (hc : Try.prog.cellsOf e = 1)
    {fuel : Nat} {cs : List Value} {x : DataW H × List MemPlace} (hf : DataW.trod enc Try.prog W 0 (fun _ => true) true fuel t cs = some x) : ∃ o len cap, ∃ xs : List Int, cs = [.slice o len cap] ∧ ArgRow (Value.int k) W o len cap xs := by
  rcases open_ints ht he hc hf with ⟨hcs, _⟩ | ⟨x, l, c, zs, hcs, _, hl, hm, hz, _, hcell, hwz⟩
  · exact ⟨none, 0, 0, [], hcs, rfl, by simp, fun _ => ⟨rfl, rfl⟩, fun j u hj => by simp at hj⟩
  · simp only [if_true] at hz
    have hlen : (zs.take l).length = l := by simp; omega
    refine ⟨some x, l, c, zs.take l, hcs, hlen.symm, by omega, fun e => (by cases e), src_of_cells _ hlen fun i hi => ?_⟩
    rw [hcell i (by omega)]
    have hi2 : i < zs.length := by omega
    simp [hi2]

theorem arg_bools {H : Type} {enc : TypeId × Value → H} {W : World} {t e : TypeId} (ht : Try.prog.underlying t = some (.slice e)) (he : Try.prog.underlying e = some .bool) (hc : Try.prog.cellsOf e = 1)
    {o : Option Addr} {len cap : Nat} {d : DataW H} {p : List MemPlace} (h : DataW.Trod enc Try.prog W 0 (fun _ => true) true t (.slice o len cap) d p) : ∃ xs : List Bool, ArgRow Value.bool W o len cap xs := by
  obtain ⟨fuel, hf⟩ := h
  rcases open_bools ht he hc hf with ⟨hcs, _⟩ | ⟨x, l, c, B, hcs, _, hl, hm, _, hcell⟩
  · simp [Value.cells] at hcs
    obtain ⟨rfl, rfl, rfl⟩ := hcs
    exact ⟨[], rfl, by simp, fun _ => ⟨rfl, rfl⟩, fun j u hj => by simp at hj⟩
  · simp [Value.cells] at hcs
    obtain ⟨rfl, rfl, rfl⟩ := hcs
    have hlen : ((List.range len).map B).length = len := by simp
    refine ⟨(List.range len).map B, hlen.symm, by omega, fun e => (by cases e), src_of_cells _ hlen fun i hi => ?_⟩
    rw [hcell i (by omega)]
    simp

theorem i64_of_wf {x : Int} (h : (Lit.int .i64 x).wf = true) : -9223372036854775808 ≤ x ∧ x ≤ 9223372036854775807 := by
  simp [Lit.wf, IntKind.min, IntKind.max, IntKind.signed, IntKind.bits] at h
  exact ⟨by omega, by omega⟩


theorem list_two {α : Type} {l : List α} (h : l.length = 2) : ∃ u v, l = [u, v] := by
  match l, h with
  | [u, v], _ => exact ⟨u, v, rfl⟩
instance : Inhabited CM := ⟨⟨0, none, 0, []⟩⟩

theorem arg_msgs {H : Type} {enc : TypeId × Value → H} {W : World} {o : Option Addr} {len cap : Nat} {d : DataW H} {p : List MemPlace} (h : DataW.Trod enc Try.prog W 0 (fun _ => true) true 29 (.slice o len cap) d p) :
    ∃ ms : List CM, len = ms.length ∧ ms.length ≤ maxLen ∧ MsgsAt W o ms := by
  obtain ⟨fuel, hf⟩ := h
  have hc60 : Try.prog.cellsOf 60 = 2 := by kernel_rfl
  have hc3 : Try.prog.cellsOf 3 = 1 := by kernel_rfl
  have hc50 : Try.prog.cellsOf 50 = 1 := by kernel_rfl
  rcases open_slice Try.underlying29 hf with ⟨hcs, _⟩ | ⟨a, l, c, m, n, D, Pl, hcs, _, hl, hm, hmm, _, hx⟩
  · simp [Value.cells] at hcs
    obtain ⟨rfl, rfl, rfl⟩ := hcs
    exact ⟨[], rfl, by simp, fun i hi => by simp at hi⟩
  · simp [Value.cells] at hcs
    obtain ⟨rfl, rfl, rfl⟩ := hcs
    simp only [if_true] at hmm
    rw [hc60] at hx
    obtain ⟨V, hV⟩ := choose_lt (α := CM) (n := len) (p := fun i v => W.cell? (a.add (i * 2)) = some (.int .i64 v.sender) ∧ W.cell? (a.add (i * 2 + 1)) = some (.slice v.o v.halt.length v.cap) ∧ Src W v.o (v.halt.map (Value.int .i64)) ∧ v.halt.length ≤ maxLen) (fun i hi => by
      obtain ⟨cs', h1, h2⟩ := hx i (by omega)
      obtain ⟨_, hlen, hcell⟩ := World.cells?_some h1
      obtain ⟨y0, y1, n', _, _, g0, g1⟩ := trod_struct2 Try.underlying60 h2
      obtain ⟨u, v, rfl⟩ := list_two hlen
      · simp only [hc3, hc50, List.drop, List.take] at g0 g1
        obtain ⟨z, e0, _⟩ := DataW.trod_int Try.underlying3 g0
        obtain ⟨o', l', c', xs, e1, q1, q2, q3, q4⟩ := cells_ints Try.underlying50 Try.underlying3 hc3 g1
        obtain rfl : u = .int .i64 z := by simpa using e0
        obtain rfl : v = .slice o' l' c' := by simpa using e1
        refine ⟨⟨z, o', c', xs⟩, ?_, ?_, q4, q2⟩
        · have h10 := hcell 0 (by omega)
          rw [Addr.add_zero'] at h10
          simpa using h10
        have h11 := hcell 1 (by omega)
        subst q1
        rw [Addr.add_add] at h11
        simpa using h11)
    refine ⟨(List.range len).map V, by simp, by simp; omega, fun i hi => ?_⟩
    have hi' : i < len := by simpa using hi
    obtain ⟨e1, e2, e3, e4⟩ := hV i hi'
    obtain ⟨b, off, spot⟩ := a
    have hspot : spot = none := by
      have h00 := World.cell?_spot (hV 0 (by omega)).1
      simpa [Addr.add] using h00
    subst hspot
    simp only [List.getElem_map, List.getElem_range]
    rw [add_plain] at e1 e2
    exact ⟨b, off, rfl, e1, by rw [Nat.add_assoc]; exact e2, e3, e4⟩
end Go.Proofs.Qxb6603393a
