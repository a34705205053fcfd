/-
  Laws of no program: 'copy' of elements of three cells, 'append(x, make([]T, m)...)' that grows.
-/
import Derived.Test.YbulkbsioCSearch
import Derived.Lib.Overlaps
import Derived.Laws.CopyOwn
namespace Go.Proofs.Ybulkbsio
open Go.RowKit Go.Deep

section
variable {P : Program} (w : World)

theorem run_copy3 (dT sT ty elem : TypeId) (g o dLen dCap : Nat) (a : Addr) (sLen sCap : Nat) (cur : Array Value) (t : TypeId) (cs : List Value)
    (hu : P.underlying dT = some (.slice elem)) (hs : (P.info? elem).map (·.size) = some 3)
    (hg : w.heap[g]? = some (.cells cur t (0, 0))) (hn : cs.length = Nat.min sLen dLen * 3)
    (hsrc : ∀ j v, cs[j]? = some v → w.cell? (a.add j) = some v) (hfit : o + cs.length ≤ cur.size) (h1 : ∀ v ∈ cs, v.oneCell' = true) :
    (Builtin.copy_ #[dT, sT] ty #[.slice (some ⟨g, o, none⟩) dLen dCap, .slice (some a) sLen sCap]).run P w =
      .ok (goInt (Nat.min sLen dLen)) (w.setRow g (cur.toList.take o ++ cs ++ cur.toList.drop (o + cs.length)).toArray) := by
  have hl := run_loadCells_list (P := P) w a cs hsrc
  have hst := run_storeCells_at P g o t cs 0 cur w hg (by simpa using hfit) h1
  cases hq : P.info? elem with
  | none => simp [hq] at hs
  | some i =>
    have hi : i.size = 3 := by simpa [hq] using hs
    simp [Builtin.copy_, run_underlying hu, Builtin.lenOf, Builtin.firstCells, sizeOf, typeInfo, hq, hi, ← hn, hl, hst]

theorem run_grow_zeros (t it ty e : TypeId) (i : TypeInfo) (z : Value) (bytes : Nat) (ht : P.underlying t = some (.slice e)) (hit : P.underlying it = some (.int .i64)) (hi : P.info? e = some i) (hz : i.zero = some z)
    (hsize : i.size = 3) (hby : i.bytes = bytes) (g n cap : Nat) (xs : List Value) (hl : xs.length = n * 3) (hxs : ∀ j u, xs[j]? = some u → w.cell? ((⟨g, 0, none⟩ : Addr).add j) = some u) (m : Nat)
    (hm : 0 < m) (hroom : cap < n + m) (h63 : n + m ≤ maxLen) (hbytes : (n + m) * bytes ≤ 140737488355328) (hnc : n ≤ cap) :
    (Builtin.append_ #[t, it] ty #[.slice (some ⟨g, 0, none⟩) n cap, .int .i64 m]).run P w = .ok (.slice (some ⟨w.heap.size, 0, none⟩) (n + m) (grownCap w (n + m) cap e)) (w.drew.alloc (.cells (xs.toArray ++ Builtin.zeroCells z.cells m ++ Builtin.zeroCells z.cells (grownCap w (n + m) cap e - (n + m))) e)) := by
  subst hby
  have hsmall : n + m ≤ 9223372036854775807 := by simp only [maxLen] at h63; omega
  have hw : IntKind.i64.wrap (m : Int) = m := by rw [IntKind.wrap_i64]; omega
  have hb1 : ¬ (281474976710656 < (m : Int) * (i.bytes : Int)) := by
    have : m * i.bytes ≤ (n + m) * i.bytes := Nat.mul_le_mul_right _ (by omega)
    have h2 : ((m * i.bytes : Nat) : Int) ≤ 140737488355328 := by omega
    rw [Int.natCast_mul] at h2
    omega
  have hneg : ¬ ((m : Int) < 0) := by omega
  have hn : ¬ (n + m ≤ cap) := by omega
  have h63' : ¬ (9223372036854775807 < ((n : Int) + (m : Int))) := by omega
  have h48' : ¬ (281474976710656 < Builtin.nextslicecap (n + m) cap * i.bytes) := by have := growslice_fits (need := n + m) (old := cap) (by omega) hbytes; omega
  have hfo := run_firstCells_some (P := P) w.drew 3 n ⟨g, 0, none⟩ n cap xs hl (by simpa using hxs)
  simp [Builtin.append_, run_underlying ht, run_underlying hit, sizeOf, typeInfo, zeroValue, hi, hz, hsize, asInt, asIntOf, hw, hb1, hneg, hn, h63', h48', Question.forced, hfo, newRow, grownCap]
  intro h
  omega

theorem wpList_copy_by {ops : Array Oper} {rest : List Oper} {o : Oper} {a : Act} {Q : Exit → Act → World → Prop} (hgd : o.guard = none) (d s : Operand) (t t' : TypeId)
    (ho : o.op = .call { callee := .builtin .copy, args := #[d, s], argTypes := #[t, t'] }) (v u : Value) (hd : a.eval d = v) (hs : a.eval s = u) {v' : Value} {w' : World}
    (hr : (Builtin.copy_ #[t, t'] o.type #[v, u]).run P w = .ok v' w') (h : wpList P ops Q rest (a.put o.dst v') w') : wpList P ops Q (o :: rest) a w :=
  wpList_plain hgd fun _ hK => by
    unfold Oper.wp execOp
    simp only [ho, resolve, invoke, builtin, Sem.run_bind, Sem.run_pure, Result.andThen_ok, List.map_toArray, List.map_cons, List.map_nil, hd, hs, hr]
    exact hK _ _ h

theorem wpList_append_by {ops : Array Oper} {rest : List Oper} {o : Oper} {a : Act} {Q : Exit → Act → World → Prop} (hgd : o.guard = none) (d s : Operand) (t t' : TypeId)
    (ho : o.op = .call { callee := .builtin .append, args := #[d, s], argTypes := #[t, t'] }) (v u : Value) (hd : a.eval d = v) (hs : a.eval s = u) {v' : Value} {w' : World}
    (hr : (Builtin.append_ #[t, t'] o.type #[v, u]).run P w = .ok v' w') (h : wpList P ops Q rest (a.put o.dst v') w') : wpList P ops Q (o :: rest) a w :=
  wpList_plain hgd fun _ hK => by
    unfold Oper.wp execOp
    simp only [ho, resolve, invoke, builtin, Sem.run_bind, Sem.run_pure, Result.andThen_ok, List.map_toArray, List.map_cons, List.map_nil, hd, hs, hr]
    exact hK _ _ h

theorem step_copy_by {ops : Array Oper} {o : Oper} {a : Act} {K : Act → World → Prop} {Q : Exit → Act → World → Prop} {E : Prop}
    (hg : o.guard = none) (d x : Operand) (dT sT : TypeId) (hop : o.op = Op.call { callee := Callee.builtin Builtin.copy, args := #[d, x], argTypes := #[dT, sT] })
    (v u : Value) (hd : a.eval d = v) (hx : a.eval x = u) {v' : Value} {w' : World} (hr : (Builtin.copy_ #[dT, sT] o.type #[v, u]).run P w = .ok v' w') (hK : K (a.put o.dst v') w') :
    if Region.wanted o (yielded ops a.tmps) = true then Oper.wp P o a w K Q else E := by
  have hw : Region.wanted o (yielded ops a.tmps) = true := by simp [Region.wanted, hg]
  rw [if_pos hw]
  unfold Oper.wp
  simp [execOp, hop, resolve, invoke, builtin, hd, hx, hr, Result.andThen]
  exact hK
end

theorem splice_at (X Z cs : List Value) (o : Nat) (h : X.length = o) : (X ++ Z).take o ++ cs ++ (X ++ Z).drop (o + cs.length) = X ++ cs ++ Z.drop cs.length := by
  subst h
  rw [List.take_left, List.drop_append, List.drop_eq_nil_of_le (by omega), Nat.add_sub_cancel_left, List.nil_append]

end Go.Proofs.Ybulkbsio
