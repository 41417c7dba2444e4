import Derived.Test.Qxb6604552aNode
namespace Go.Proofs.Qxb6604552a
open Go.RowKit
open Extern.Stop (cell)
set_option linter.unusedSimpArgs false
set_option linter.unusedVariables false

theorem stood38 : Try.prog.stoodInHeld 38 = false := by kernel_rfl
theorem stood32 : Try.prog.stoodInHeld 32 = false := by kernel_rfl
theorem guard38 : Try.prog.eqGuardType Try.prog.depth 38 = false := by kernel_rfl

theorem extract_list (cs : List Value) (off k : Nat) (ds es : List Value) (h : cs.drop off = ds ++ es) (hk : ds.length = k) : cs.toArray.extract off (off + k) = ds.toArray := by
  rw [List.extract_toArray, List.extract_eq_take_drop, h, Nat.add_sub_cancel_left, ← hk, List.take_left]

theorem part_agg (t : TypeId) (d : TypeDesc) (cs : List Value) (off k : Nat) (ds es : List Value) (hu : Try.prog.underlying t = some d) (hd : d.isRow = true) (hi : (Try.prog.info? t).map (·.size) = some k) (h : cs.drop off = ds ++ es) (hk : ds.length = k) (w : World) :
    (part t cs.toArray off).run Try.prog w = .ok (.agg ds.toArray) w := by
  have hagg : (isAgg t).run Try.prog w = .ok true w := by
    unfold isAgg
    rw [Sem.run_bind, run_underlying hu w]
    cases d <;> simp_all
  unfold part
  simp only [Sem.run_bind, hagg, Result.andThen_ok, if_true, size_of hi, Sem.run_pure, extract_list cs off k ds es h hk]

theorem part_one (t : TypeId) (d : TypeDesc) (cs : List Value) (off : Nat) (v : Value) (es : List Value) (hu : Try.prog.underlying t = some d) (hd : d.isRow = false) (h : cs.drop off = v :: es) (w : World) :
    (part t cs.toArray off).run Try.prog w = .ok v w := by
  have hagg : (isAgg t).run Try.prog w = .ok false w := by
    unfold isAgg
    rw [Sem.run_bind, run_underlying hu w]
    cases d <;> simp_all
  have hv : cs[off]? = some v := by
    have := congrArg (·[0]?) h
    simpa using this
  unfold part
  simp [Sem.run_bind, hagg, hv]

/-- one field that equals itself -/
theorem eq_step (d : Nat) (cs : List Value) (f : Field) (fs : List Field) (v : Value) (hn : f.name ≠ "_") (w : World) (hp : (part f.type cs.toArray f.offset).run Try.prog w = .ok v w) (he : (Op.equalIn d f.type v v).run Try.prog w = .ok true w) :
    (Op.eqFields d cs.toArray cs.toArray (f :: fs)).run Try.prog w = (Op.eqFields d cs.toArray cs.toArray fs).run Try.prog w := by
  rw [Op.eqFields, if_pos hn]
  simp only [Sem.run_bind, hp, he, Result.andThen_ok, Bool.not_true, Bool.false_eq_true, if_false]

theorem fieldsOf_eq {t : TypeId} {fs : Array Field} (h : Try.prog.underlying t = some (.struct fs)) : Try.prog.fieldsOf t = fs := by
  unfold Program.fieldsOf
  rw [h]
theorem under_fields {t : TypeId} {fs : Array Field} (h : Try.prog.underlying t = some (.struct fs)) : Try.prog.underlying t = some (.struct (Try.prog.fieldsOf t)) := by
  rw [fieldsOf_eq h]
  exact h

theorem eqBytes (d : Nat) (xs : List UInt8) (hx : xs.length = 32) (w : World) : (Op.equalIn (d + 2) 30 (.agg (xs.map cell).toArray) (.agg (xs.map cell).toArray)).run Try.prog w = .ok true w := by
  rw [run_equalIn_bytes w d 30 5 32 Try.underlying30 Try.underlying5 (size_of isz5) xs xs hx hx]
  simp

set_option maxRecDepth 100000 in
theorem eqOpt (d : Nat) (rek : List UInt8) (ok : Bool) (h : rek.length = 32) (w : World) : (Op.equalIn (d + 3) 32 (.agg (rek.map cell ++ [Value.bool ok]).toArray) (.agg (rek.map cell ++ [Value.bool ok]).toArray)).run Try.prog w = .ok true w := by
  rw [run_equalIn_struct w (d + 2) 32 _ _ (under_fields Try.underlying32) stood32, fieldsOf_eq Try.underlying32]
  refine (eq_step (d + 2) _ _ _ (.agg (rek.map cell).toArray) (by decide) w (part_agg 30 _ _ 0 32 _ [Value.bool ok] Try.underlying30 rfl isz30 rfl (by simp [h]) w) (eqBytes d rek h w)).trans ?_
  refine (eq_step (d + 2) _ _ _ (.bool ok) (by decide) w (part_one 4 _ _ 32 _ [] Try.underlying4 rfl (by rw [List.drop_append_of_le_length (by simp [h]), List.drop_eq_nil_of_le (by simp [h])]; rfl) w) (by rw [run_equalIn_bool' w _ 4 ok ok Try.underlying4]; simp)).trans ?_
  rfl

set_option maxRecDepth 100000 in
theorem eq38 (n : Nd) (h : n.Wf) (w : World) : (Op.equalIn 10000 38 (.agg n.cells.toArray) (.agg n.cells.toArray)).run Try.prog w = .ok true w := by
  rw [run_equalIn_struct w 9999 38 _ _ (under_fields Try.underlying38) stood38, fieldsOf_eq Try.underlying38]
  refine (eq_step 9999 _ _ _ (.agg (n.nid.map cell).toArray) (by decide) w (part_agg 30 _ _ 0 32 _ _ Try.underlying30 rfl isz30 rfl (by simp [h.nid]) w) (eqBytes 9997 _ h.nid w)).trans ?_
  refine (eq_step 9999 _ _ _ (.int .i64 n.back) (by decide) w (part_one 36 _ _ 32 _ _ Try.underlying36 rfl (Nd.drop32 n h) w) (by rw [run_equalIn_int w _ 36 .i64 .i64 _ _ Try.underlying36]; simp)).trans ?_
  refine (eq_step 9999 _ _ _ (.agg (n.eid.map cell).toArray) (by decide) w (part_agg 30 _ _ 33 32 _ _ Try.underlying30 rfl isz30 (Nd.drop33 n h) (by simp [h.eid]) w) (eqBytes 9997 _ h.eid w)).trans ?_
  refine (eq_step 9999 _ _ _ (.agg (n.rek.map cell ++ [Value.bool n.ok]).toArray) (by decide) w (part_agg 32 _ _ 65 33 _ (Value.string n.addr :: n.reg.map cell) Try.underlying32 rfl isz32 (by rw [Nd.drop65 n h]; simp) (by simp [h.rek]) w) (eqOpt 9996 _ _ h.rek w)).trans ?_
  refine (eq_step 9999 _ _ _ (.string n.addr) (by decide) w (part_one 9 _ _ 98 _ _ Try.underlying9 rfl (Nd.drop98 n h) w) (by rw [run_equalIn_string w _ 9 _ _ Try.underlying9]; simp)).trans ?_
  refine (eq_step 9999 _ _ _ (.agg (n.reg.map cell).toArray) (by decide) w (part_agg 30 _ _ 99 32 _ [] Try.underlying30 rfl isz30 (by rw [Nd.drop99 n h]; simp) (by simp [h.reg]) w) (eqBytes 9997 _ h.reg w)).trans ?_
  rfl
end Go.Proofs.Qxb6604552a
