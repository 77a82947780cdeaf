import Derived.Test.YbulkdkveCMem
import Derived.Lib.AppendZerosOnto
import Derived.Laws.CopyRow
import Derived.Deep.RegionLaw
/-! copy over elements of s cells: laws of no program. -/
namespace Go.Proofs.Ybulkdkve.lawS5594CWhole
open Go.RowKit Go.Deep
set_option linter.unusedVariables false
set_option linter.unusedSimpArgs false

/-- 'copy(dst, src)', elements of s cells each, dst in a row that is known whole. -/
theorem run_copy_cells_s {P : Program} (w : World) (dT sT ty elem : TypeId) (s : Nat) (g o dLen dCap : Nat) (a : Addr) (sLen sCap : Nat) (cur : Array Value) (t : TypeId) (m : Nat) (cs : List Value)
    (hu : P.underlying dT = some (.slice elem)) (hs : (P.info? elem).map (·.size) = some s) (hg : w.heap[g]? = some (.cells cur t (0, 0))) (hm : Nat.min sLen dLen = m) (hn : cs.length = m * s)
    (hsrc : ∀ j v, cs[j]? = some v → w.cell? (a.add j) = some v) (hfit : o + cs.length ≤ cur.size) (h1 : ∀ v ∈ cs, v.oneCell' = true) :
    (Builtin.copy_ #[dT, sT] ty #[.slice (some ⟨g, o, none⟩) dLen dCap, .slice (some a) sLen sCap]).run P w =
      .ok (goInt m) (w.setRow g (cur.toList.take o ++ cs ++ cur.toList.drop (o + cs.length)).toArray) := by
  have hl := run_loadCells_list (P := P) w a cs hsrc
  have hst := run_storeCells_at P g o t cs 0 cur w hg (by simpa using hfit) h1
  cases hq : P.info? elem with
  | none => simp [hq] at hs
  | some i =>
    have hi : i.size = s := by simpa [hq] using hs
    simp [Builtin.copy_, run_underlying hu, Builtin.lenOf, Builtin.firstCells, sizeOf, typeInfo, hq, hi, hm, ← hn, hl, hst]

/-- The operation, where its run is known. -/
theorem wp_copy_known {P : Program} (w : World) {o : Oper} {a : Act} {K : Act → World → Prop} {Q : Exit → Act → World → Prop} (d s : Operand) (t t' : TypeId)
    (ho : o.op = .call { callee := .builtin .copy, args := #[d, s], argTypes := #[t, t'] }) (v u : Value) (hd : a.eval d = v) (hs : a.eval s = u) {v' : Value} {w' : World}
    (hr : (Builtin.copy_ #[t, t'] o.type #[v, u]).run P w = .ok v' w') (h : K (a.put o.dst v') w') : o.wp P a w K Q := by
  unfold Oper.wp execOp
  simp only [ho, resolve, invoke, builtin, Sem.run_bind, Sem.run_pure, Result.andThen_ok, List.map_toArray, List.map_cons, List.map_nil, hd, hs, hr]
  exact h
theorem wpList_copy_known {P : Program} (w : World) {ops : Array Oper} {rest : List Oper} {o : Oper} {a : Act} {Q : Exit → Act → World → Prop} (hgd : o.guard = none) (d s : Operand) (t t' : TypeId)
    (ho : o.op = .call { callee := .builtin .copy, args := #[d, s], argTypes := #[t, t'] }) (v u : Value) (hd : a.eval d = v) (hs : a.eval s = u) {v' : Value} {w' : World}
    (hr : (Builtin.copy_ #[t, t'] o.type #[v, u]).run P w = .ok v' w') (h : wpList P ops Q rest (a.put o.dst v') w') : wpList P ops Q (o :: rest) a w :=
  wpList_plain hgd fun _ hK => wp_copy_known w d s t t' ho v u hd hs hr (hK _ _ h)
theorem step_copy_known {P : Program} {ops : Array Oper} {o : Oper} {a : Act} {w : World} {K : Act → World → Prop} {Q : Exit → Act → World → Prop} {E : Prop}
    (hg : o.guard = none) (d x : Operand) (dT sT : TypeId) (hop : o.op = Op.call { callee := Callee.builtin Builtin.copy, args := #[d, x], argTypes := #[dT, sT] })
    (v u : Value) (hd : a.eval d = v) (hx : a.eval x = u) {v' : Value} {w' : World} (hr : (Builtin.copy_ #[dT, sT] o.type #[v, u]).run P w = .ok v' w') (hK : K (a.put o.dst v') w') :
    if Region.wanted o (yielded ops a.tmps) = true then Oper.wp P o a w K Q else E := by
  have hw : Region.wanted o (yielded ops a.tmps) = true := by simp [Region.wanted, hg]
  rw [if_pos hw]
  exact wp_copy_known w d x dT sT hop v u hd hx hr hK

/-- Two rows laid over one another: 'copy(s[i+1:], s[i:]); copy(s[i:], v)' in place. -/
theorem shift_list (cur A X D Z : List Value) (p s n : Nat) (hcur : cur = A ++ D ++ Z) (hA : A.length = p) (hX : X.length = s) (hD : D.length = n) (hZ : s ≤ Z.length) :
    let r := cur.take (p + s) ++ D ++ cur.drop (p + s + n)
    r.take p ++ X ++ r.drop (p + s) = A ++ X ++ D ++ Z.drop s := by
  intro r
  have h1 : (cur.take (p + s)).length = p + s := by rw [List.length_take, hcur]; simp; omega
  have h2 : r.take p = A := by
    show (cur.take (p + s) ++ D ++ cur.drop (p + s + n)).take p = A
    rw [List.append_assoc, List.take_append_of_le_length (by omega), List.take_take, Nat.min_eq_left (by omega), hcur, List.append_assoc, List.take_append_of_le_length (by omega), List.take_of_length_le (by omega)]
  have h3 : r.drop (p + s) = D ++ Z.drop s := by
    show (cur.take (p + s) ++ D ++ cur.drop (p + s + n)).drop (p + s) = _
    rw [List.append_assoc, List.drop_append_of_le_length (by omega), List.drop_of_length_le (by omega), List.nil_append]
    congr 1
    rw [hcur, List.drop_append, List.drop_of_length_le (by simp; omega), List.nil_append]
    congr 1
    simp
    omega
  rw [h2, h3]
  simp

/-- 'copy(s2[i:], v); copy(s2[i+1:], s[i:])' in a new row. -/
theorem fill_list (A O X D Z : List Value) (p s n : Nat) (hA : A.length = p) (hO : O.length = s + n) (hX : X.length = s) (hD : D.length = n) :
    let r := (A ++ O ++ Z).take p ++ X ++ (A ++ O ++ Z).drop (p + s)
    r.take (p + s) ++ D ++ r.drop (p + s + n) = A ++ X ++ D ++ Z := by
  intro r
  have h1 : (A ++ O ++ Z).take p = A := by rw [List.append_assoc, List.take_append_of_le_length (by omega), List.take_of_length_le (by omega)]
  have h2 : (A ++ O ++ Z).drop (p + s) = O.drop s ++ Z := by
    rw [List.append_assoc, List.drop_append, List.drop_of_length_le (by omega), List.nil_append, show p + s - A.length = s by omega, List.drop_append_of_le_length (by omega)]
  have hr : r = (A ++ X) ++ (O.drop s ++ Z) := by show _ ++ X ++ _ = _; rw [h1, h2]
  rw [hr, List.take_append_of_le_length (by simp; omega), List.take_of_length_le (by simp; omega), List.drop_append, List.drop_of_length_le (by simp; omega), List.nil_append]
  simp
  rw [List.drop_append, List.drop_of_length_le (by simp; omega), List.nil_append]
  have : p + s + n - (A.length + X.length) - (O.length - s) = 0 := by omega
  simp [this]

end Go.Proofs.Ybulkdkve.lawS5594CWhole
