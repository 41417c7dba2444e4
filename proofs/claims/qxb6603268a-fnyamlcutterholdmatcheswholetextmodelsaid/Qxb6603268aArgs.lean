import Derived.Test.Qxb6603268aRows
import Derived.Test.Qxb6603268aSplit
import Derived.ProofKit
import Derived.OpenShut
import Derived.ShutString
import Derived.ChangeOld
import Derived.Below
import Derived.Deep.Grids
namespace Go.Proofs.Qxb6603268a
open Go.ChangeShapes Go.WideShapes Go.ChangeAt Go.RowKit Go.Deep
set_option linter.unusedVariables false

theorem own : ownKnob Try.prog.godebug = none := by kernel_rfl
theorem laidOut : laidOutB Try.prog = true := by kernel_rfl

/-- what the walk is told of a slice that came in: its elements xs, the address of its cells -/
def ArgRow {α : Type} (f : α → Value) (w : World) (o : Option Addr) (len cap : Nat) (xs : List α) : Prop :=
  len = xs.length ∧ xs.length ≤ maxLen ∧ (o = none → xs = [] ∧ cap = 0) ∧ Src w o (xs.map f)

theorem src_of_cells {α : Type} (f : α → Value) {w : World} {a : Addr} {len : Nat} {xs : List α} (hl : xs.length = len) (hc : ∀ i (h : i < xs.length), w.cell? (a.add i) = some (f xs[i])) : Src w (some a) (xs.map f) := fun j u hj => by
  rw [List.getElem?_map] at hj
  have hjl : j < xs.length := by
    rcases Nat.lt_or_ge j xs.length with h' | h'
    · exact h'
    · rw [List.getElem?_eq_none h'] at hj; cases hj
  rw [List.getElem?_eq_getElem hjl] at hj
  cases hj
  obtain ⟨b, off, spot⟩ := a
  have h0 := hc j hjl
  have hspot : spot = none := by
    have h00 := World.cell?_spot (hc 0 (by omega))
    simpa [Addr.add] using h00
  subst hspot
  exact ⟨b, off, rfl, by rw [← add_plain]; exact h0⟩

theorem arg_ints {H : Type} {enc : TypeId × Value → H} {W : World} {t e : TypeId} {k : IntKind} (ht : Try.prog.underlying t = some (.slice e)) (he : Try.prog.underlying e = some (.int k)) (hc : Try.prog.cellsOf e = 1)
    {o : Option Addr} {len cap : Nat} {d : DataW H} {p : List MemPlace} (h : DataW.Trod enc Try.prog W 0 (fun _ => true) true t (.slice o len cap) d p) : ∃ xs : List Int, ArgRow (Value.int k) W o len cap xs := by
  obtain ⟨fuel, hf⟩ := h
  rcases open_ints ht he hc hf with ⟨hcs, _⟩ | ⟨x, l, c, zs, hcs, _, hl, hm, hz, _, hcell, hwz⟩
  · simp [Value.cells] at hcs
    obtain ⟨rfl, rfl, rfl⟩ := hcs
    exact ⟨[], rfl, by simp, fun _ => ⟨rfl, rfl⟩, fun j u hj => by simp at hj⟩
  · simp [Value.cells] at hcs
    obtain ⟨rfl, rfl, rfl⟩ := hcs
    simp only [if_true] at hz
    have hlen : (zs.take len).length = len := by simp; omega
    refine ⟨zs.take len, hlen.symm, by omega, fun e => (by cases e), src_of_cells _ hlen fun i hi => ?_⟩
    rw [hcell i (by omega)]
    have hi2 : i < zs.length := by omega
    simp [hi2]

theorem arg_bools {H : Type} {enc : TypeId × Value → H} {W : World} {t e : TypeId} (ht : Try.prog.underlying t = some (.slice e)) (he : Try.prog.underlying e = some .bool) (hc : Try.prog.cellsOf e = 1)
    {o : Option Addr} {len cap : Nat} {d : DataW H} {p : List MemPlace} (h : DataW.Trod enc Try.prog W 0 (fun _ => true) true t (.slice o len cap) d p) : ∃ xs : List Bool, ArgRow Value.bool W o len cap xs := by
  obtain ⟨fuel, hf⟩ := h
  rcases open_bools ht he hc hf with ⟨hcs, _⟩ | ⟨x, l, c, B, hcs, _, hl, hm, _, hcell⟩
  · simp [Value.cells] at hcs
    obtain ⟨rfl, rfl, rfl⟩ := hcs
    exact ⟨[], rfl, by simp, fun _ => ⟨rfl, rfl⟩, fun j u hj => by simp at hj⟩
  · simp [Value.cells] at hcs
    obtain ⟨rfl, rfl, rfl⟩ := hcs
    have hlen : ((List.range len).map B).length = len := by simp
    refine ⟨(List.range len).map B, hlen.symm, by omega, fun e => (by cases e), src_of_cells _ hlen fun i hi => ?_⟩
    rw [hcell i (by omega)]
    simp

theorem i64_of_wf {x : Int} (h : (Lit.int .i64 x).wf = true) : -9223372036854775808 ≤ x ∧ x ≤ 9223372036854775807 := by
  simp [Lit.wf, IntKind.min, IntKind.max, IntKind.signed, IntKind.bits] at h
  exact ⟨by omega, by omega⟩
end Go.Proofs.Qxb6603268a
