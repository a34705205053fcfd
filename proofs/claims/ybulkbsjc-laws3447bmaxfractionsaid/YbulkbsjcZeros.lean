/-
  'append(x, make([]int, m)...)' as one step: the owned row grows by m noughts.
-/
import Derived.Test.YbulkbsjcRows
import Derived.WalkKit
import Derived.WalkSpells
import Derived.WalkLawsBesides
import Derived.Deep.LoopGhost
import Derived.Deep.OwnRows
import Derived.Deep.Light
import Derived.Deep.DeepCutAuto
import Derived.Deep.RegionWith
import Derived.Deep.RegionHeld3
import Derived.Deep.AppendLies
import Derived.Deep.QuietTactic
import Derived.BigQuiet
import Derived.Deep.DeepMust
import Derived.Deep.CutBlock
import Derived.Deep.RegionLaw
import Derived.Deep.DrawnRows
namespace Go.Proofs.Ybulkbsjc
open Go.RowKit Go.Deep

theorem Yba.info3 : (Yba.prog.info? 3).map (fun i => (i.zero, i.size, i.bytes)) = some (some (.int .i64 0), 1, 8) := by kernel_rfl

section
variable {P : Program} (w : World)

theorem zeroCells_one (z : Value) (hz : z.cells = #[z]) (m : Nat) : Builtin.zeroCells z.cells m = (List.replicate m z).toArray := by
  rw [hz]
  apply Array.ext
  · simp [Builtin.zeroCells]
  · intro j h1 h2
    simp [Builtin.zeroCells, Nat.mod_one]

theorem run_append_zeros (t it ty e : TypeId) (base : Nat) (i : TypeInfo) (q : IntKind) (bytes : Nat) (ht : P.underlying t = some (.slice e)) (hit : P.underlying it = some (.int .i64)) (hi : P.info? e = some i) (hz : i.zero = some (.int q 0))
    (hsize : i.size = 1) (hby : i.bytes = bytes)
    (v : Value) (n : Nat) (xs : List Value) (hown : w.ownsRow base e 1 v n xs) (m : Nat)
    (hm : 0 < m) (h63 : n + m ≤ maxLen) (hbytes : (n + m) * bytes ≤ 140737488355328) (hbase : base ≤ w.heap.size) (H : Nat) (hH : w.heap.size = H) :
    ∃ g cap w', (Builtin.append_ #[t, it] ty #[v, .int .i64 m]).run P w = .ok (.slice (some ⟨g, 0, none⟩) (n + m) cap) w' ∧
      w'.ownsRow base e 1 (.slice (some ⟨g, 0, none⟩) (n + m) cap) (n + m) (xs ++ List.replicate m (.int q 0)) ∧ w.grownBy w' v.ownBlock ∧ (v.ownBlock = some g ∨ g = H) ∧ g < w'.heap.size := by
  subst hby
  subst hH
  have hzc : (Value.int q 0).cells = #[Value.int q 0] := by simp [Value.cells]
  have hz1 := zeroCells_one (Value.int q 0) hzc
  have hsmall : n + m ≤ 9223372036854775807 := by simp only [maxLen] at h63; omega
  have hw : IntKind.i64.wrap (m : Int) = m := by rw [IntKind.wrap_i64]; omega
  have hb1 : ¬ (281474976710656 < (m : Int) * (i.bytes : Int)) := by
    have : m * i.bytes ≤ (n + m) * i.bytes := Nat.mul_le_mul_right _ (by omega)
    have h2 : ((m * i.bytes : Nat) : Int) ≤ 140737488355328 := by omega
    rw [Int.natCast_mul] at h2
    omega
  have hm0 : m ≠ 0 := by omega
  have hneg : ¬ ((m : Int) < 0) := by omega
  have hlen : (xs ++ List.replicate m (Value.int q 0)).length = (n + m) * 1 := by rw [List.length_append, hown.1, List.length_replicate, Nat.mul_one, Nat.mul_one]
  rcases hown.2 with ⟨rfl, rfl⟩ | ⟨g, cap, cur, rfl, hbg, hg, hnc, hcm, hcs, htake⟩
  · have hx : xs = [] := List.eq_nil_of_length_eq_zero (by simpa using hown.1)
    subst hx
    simp only [Nat.zero_add] at *
    have h63' : ¬ (9223372036854775807 < (m : Int)) := by omega
    have h48' : ¬ (281474976710656 < Builtin.nextslicecap m 0 * i.bytes) := by rw [nextslicecap_zero hm]; omega
    have hge := grownCap_ge w m 0 e
    refine ⟨w.heap.size, grownCap w m 0 e, w.drew.alloc (.cells ((List.replicate m (Value.int q 0)).toArray ++ Builtin.zeroCells (Value.int q 0).cells (grownCap w m 0 e - m)) e), ?_, ?_, ?_, .inr rfl, ?_⟩
    · simp [Builtin.append_, run_underlying ht, run_underlying hit, sizeOf, typeInfo, zeroValue, hi, hz, hsize, asInt, asIntOf, hw, hb1, hneg, hm0, h63', h48', Question.forced, run_firstCells_none, newRow, grownCap, hz1]
    · refine ⟨by simp, .inr ⟨w.heap.size, _, _, rfl, hbase, heap_alloc_new w.drew _, hge, grownCap_le_maxLen w m 0 e h63, ?_, ?_⟩⟩
      · simp only [Array.size_append, List.size_toArray, size_zeroCells, List.length_replicate, hzc]
        simp; omega
      · simp
    · exact ⟨rfl, rfl, rfl, by simp, fun k hk _ => by rw [blk_alloc_lt w.drew _ _ hk]; rfl⟩
    · simp
  · by_cases hroom : n + m ≤ cap
    · refine ⟨g, cap, w.setRow g (cur.toList.take (n * 1) ++ List.replicate m (Value.int q 0) ++ cur.toList.drop (n * 1 + m)).toArray, ?_, ?_, ?_, .inl rfl, ?_⟩
      · have hst := run_storeCells_at P g n e (List.replicate m (Value.int q 0)) 0 cur w hg (by simp; omega) (by intro u hu; rw [List.eq_of_mem_replicate hu]; simp [Value.oneCell'])
        simp only [Nat.add_zero, List.length_replicate] at hst
        simp [Builtin.append_, run_underlying ht, run_underlying hit, sizeOf, typeInfo, zeroValue, hi, hz, hsize, asInt, asIntOf, hw, hb1, hneg, hm0, hroom, hz1, Addr.add_lit, hst]
      · refine ⟨hlen, .inr ⟨g, cap, _, rfl, hbg, setRow_heap w g cur _ e _ hg, hroom, hcm, ?_, ?_⟩⟩
        · simp; omega
        · rw [htake, ← hlen]
          exact List.take_left
      · exact ⟨rfl, rfl, rfl, by simp, fun k _ hk => setRow_other w g k _ (fun e => hk (by simp [Value.ownBlock, e]))⟩
      · have := (Array.getElem?_eq_some_iff.1 hg).1
        simpa using this
    · have holds : ∀ j u, xs[j]? = some u → w.cell? ((⟨g, 0, none⟩ : Addr).add j) = some u := hown.cells (g := g) rfl
      have hn : ¬ (n + m ≤ cap) := hroom
      have h63' : ¬ (9223372036854775807 < ((n : Int) + (m : Int))) := by omega
      have h48' : ¬ (281474976710656 < Builtin.nextslicecap (n + m) cap * i.bytes) := by have := growslice_fits (need := n + m) (old := cap) (by omega) hbytes; omega
      have hfo := run_firstCells_some (P := P) w.drew 1 n ⟨g, 0, none⟩ n cap xs hown.1 (by simpa using holds)
      have hge := grownCap_ge w (n + m) cap e
      refine ⟨w.heap.size, grownCap w (n + m) cap e, w.drew.alloc (.cells (xs.toArray ++ (List.replicate m (Value.int q 0)).toArray ++ Builtin.zeroCells (Value.int q 0).cells (grownCap w (n + m) cap e - (n + m))) e), ?_, ?_, ?_, .inr rfl, ?_⟩
      · simp [Builtin.append_, run_underlying ht, run_underlying hit, sizeOf, typeInfo, zeroValue, hi, hz, hsize, asInt, asIntOf, hw, hb1, hneg, hm0, hn, h63', h48', Question.forced, hfo, newRow, grownCap, hz1]
      · refine ⟨hlen, .inr ⟨w.heap.size, _, _, rfl, hbase, heap_alloc_new w.drew _, hge, grownCap_le_maxLen w (n + m) cap e h63, ?_, ?_⟩⟩
        · simp only [Array.size_append, List.size_toArray, size_zeroCells, List.length_replicate, hzc, hown.1]
          simp; omega
        · simp only [Array.toList_append, ← hlen]
          exact List.take_left
      · exact ⟨rfl, rfl, rfl, by simp, fun k hk _ => by rw [blk_alloc_lt w.drew _ _ hk]; rfl⟩
      · simp

theorem step_append_zeros {ops : Array Oper} {o : Oper} {a : Act} {K : Act → World → Prop} {Q : Exit → Act → World → Prop} {E : Prop} (hgd : o.guard = none) (s x : Operand) (t it : TypeId)
    (ho : o.op = .call { callee := .builtin .append, args := #[s, x], argTypes := #[t, it] })
    (base : Nat) (e : TypeId) (i : TypeInfo) (q : IntKind) (bytes : Nat) (ht : P.underlying t = some (.slice e)) (hit : P.underlying it = some (.int .i64)) (hi : P.info? e = some i) (hz : i.zero = some (.int q 0))
    (hsize : i.size = 1) (hby : i.bytes = bytes)
    (v : Value) (n : Nat) (xs : List Value) (hs : a.eval s = v) (hown : w.ownsRow base e 1 v n xs) (m : Nat) (hx : a.eval x = .int .i64 m)
    (hm : 0 < m) (h63 : n + m ≤ maxLen) (hbytes : (n + m) * bytes ≤ 140737488355328) (hbase : base ≤ w.heap.size) (H : Nat) (hH : w.heap.size = H)
    (h : ∀ g cap w', w'.ownsRow base e 1 (.slice (some ⟨g, 0, none⟩) (n + m) cap) (n + m) (xs ++ List.replicate m (.int q 0)) → w.grownBy w' v.ownBlock → (v.ownBlock = some g ∨ g = H) → g < w'.heap.size → K (a.put o.dst (.slice (some ⟨g, 0, none⟩) (n + m) cap)) w') :
    if Region.wanted o (yielded ops a.tmps) = true then Oper.wp P o a w K Q else E := by
  have hw : Region.wanted o (yielded ops a.tmps) = true := by simp [Region.wanted, hgd]
  rw [if_pos hw]
  obtain ⟨g, cap, w', hr, h2, h3, h4, h5⟩ := run_append_zeros (P := P) w t it o.type e base i q bytes ht hit hi hz hsize hby v n xs hown m hm h63 hbytes hbase H hH
  unfold Oper.wp execOp
  simp only [ho, resolve, invoke, builtin, Sem.run_bind, Sem.run_pure, Result.andThen_ok, List.map_toArray, List.map_cons, List.map_nil, hs, hx, hr]
  exact h g cap w' h2 h3 h4 h5
end
end Go.Proofs.Ybulkbsjc
