/-
  'Rows.LawS3446CUnionSaid', PROVED.
-/
import Derived.Test.YbulkbsioCLawW
import Derived.ProofKit
import Derived.OpenShut
import Derived.Deep.Matrix
import Derived.Deep.Strs
import Derived.ShutString
import Derived.ChangeOld
namespace Go.Proofs.Ybulkbsio.lawS3446CUnion
open Go.ChangeShapes Go.WideShapes Go.ChangeAt Go.RowKit Go.Deep

theorem own : ownKnob Yba.prog.godebug = none := by kernel_rfl
theorem laidOut : laidOutB Yba.prog = true := by kernel_rfl
theorem cells5 : Yba.prog.cellsOf 5 = 1 := by kernel_rfl
theorem cells58 : Yba.prog.cellsOf 58 = 4 := by kernel_rfl

theorem addr_plain {w : World} {a : Addr} {v : Value} (h : w.cell? (a.add 0) = some v) : a = ⟨a.block, a.off, none⟩ := by
  obtain ⟨b, off, spot⟩ := a
  have hspot : spot = none := by simpa [Addr.add] using World.cell?_spot h
  subst hspot
  rfl

/-- A struct of four fields, its fields opened. -/
theorem fields4 {P : Program} {H : Type} {enc : TypeId × Value → H} {w : World} {t : TypeId} {f0 f1 f2 f3 : Field} {fuel : Nat} {cs : List Value} {x : DataW H × List MemPlace} (ht : P.underlying t = some (.struct #[f0, f1, f2, f3])) (h : DataW.trod enc P w 0 (fun _ => true) true fuel t cs = some x) :
    ∃ y0 y1 y2 y3 n, cs.length = P.cellsOf t ∧ DataW.trod enc P w 0 (fun _ => true) true n f0.type ((cs.drop f0.offset).take (P.cellsOf f0.type)) = some y0 ∧ DataW.trod enc P w 0 (fun _ => true) true n f1.type ((cs.drop f1.offset).take (P.cellsOf f1.type)) = some y1 ∧
      DataW.trod enc P w 0 (fun _ => true) true n f2.type ((cs.drop f2.offset).take (P.cellsOf f2.type)) = some y2 ∧ DataW.trod enc P w 0 (fun _ => true) true n f3.type ((cs.drop f3.offset).take (P.cellsOf f3.type)) = some y3 := by
  obtain ⟨xs, n, -, -, hl, hlen, hf⟩ := DataW.trod_struct ht h
  match xs, hlen with
  | [y0, y1, y2, y3], _ => exact ⟨y0, y1, y2, y3, n, hl, by simpa using hf 0 f0 rfl, by simpa using hf 1 f1 rfl, by simpa using hf 2 f2 rfl, by simpa using hf 3 f3 rfl⟩

theorem op_in {H : Type} {enc : TypeId × Value → H} {w : World} {n : Nat} {cs : List Value} {x : DataW H × List MemPlace} (h : DataW.trod enc Yba.prog w 0 (fun _ => true) true n 58 cs = some x) :
    ∃ y : Int × Int × Int × Int, cs = [.int .u8 y.1, .int .u8 y.2.1, .int .u8 y.2.2.1, .int .u8 y.2.2.2] ∧ (0 ≤ y.1 ∧ y.1 ≤ 255) ∧ (0 ≤ y.2.1 ∧ y.2.1 ≤ 255) ∧ (0 ≤ y.2.2.1 ∧ y.2.2.1 ≤ 255) ∧ (0 ≤ y.2.2.2 ∧ y.2.2.2 ≤ 255) := by
  obtain ⟨y0, y1, y2, y3, m, hl, h0, h1, h2, h3⟩ := fields4 Yba.underlying58 h
  rw [cells58] at hl
  match cs, hl with
  | [c0, c1, c2, c3], _ =>
    simp only [List.drop_zero, cells5, List.take_succ_cons, List.take_zero, List.drop_succ_cons] at h0 h1 h2 h3
    obtain ⟨a, e0, -, wa⟩ := DataW.trod_int Yba.underlying5 h0
    obtain ⟨b, e1, -, wb⟩ := DataW.trod_int Yba.underlying5 h1
    obtain ⟨c, e2, -, wc⟩ := DataW.trod_int Yba.underlying5 h2
    obtain ⟨d, e3, -, wd⟩ := DataW.trod_int Yba.underlying5 h3
    simp only [List.cons.injEq, and_true] at e0 e1 e2 e3
    subst e0 e1 e2 e3
    exact ⟨(a, b, c, d), rfl, bounds_u8 wa, bounds_u8 wb, bounds_u8 wc, bounds_u8 wd⟩

theorem ops_in {H : Type} {enc : TypeId × Value → H} {w : World} {va : Option Addr} {n cap : Nat} {d : DataW H} {p : List MemPlace} (h : DataW.Trod enc Yba.prog w 0 (fun _ => true) true 38 (.slice va n cap) d p) :
    ∃ ab ao A0 A1 A2 A3, COps w va n ab ao A0 A1 A2 A3 := by
  obtain ⟨fuel, hf⟩ := h
  rcases open_slice Yba.underlying38 hf with ⟨hcs, -⟩ | ⟨a, len, cap', m, k, D, Pl, hcs, -, hl, hm, hmm, -, hx⟩
  · simp only [Value.cells, List.cons.injEq, Value.slice.injEq] at hcs
    obtain ⟨⟨rfl, rfl, rfl⟩, -⟩ := hcs
    exact ⟨0, 0, fun _ => 0, fun _ => 0, fun _ => 0, fun _ => 0, ⟨fun h => by omega, fun r hr => by omega, fun r hr => by omega, fun r hr => by omega, fun r hr => by omega, fun r hr => by omega⟩⟩
  · simp only [Value.cells, List.cons.injEq, Value.slice.injEq] at hcs
    obtain ⟨⟨rfl, rfl, rfl⟩, -⟩ := hcs
    simp only [if_true] at hmm
    rw [cells58] at hx
    have each : ∀ r, r < n → ∃ y : Int × Int × Int × Int, ((0 ≤ y.1 ∧ y.1 ≤ 255) ∧ (0 ≤ y.2.1 ∧ y.2.1 ≤ 255) ∧ (0 ≤ y.2.2.1 ∧ y.2.2.1 ≤ 255) ∧ (0 ≤ y.2.2.2 ∧ y.2.2.2 ≤ 255)) ∧
        (w.cell? ((a.add (r * 4)).add 0) = some (.int .u8 y.1) ∧ w.cell? ((a.add (r * 4)).add 1) = some (.int .u8 y.2.1) ∧ w.cell? ((a.add (r * 4)).add 2) = some (.int .u8 y.2.2.1) ∧ w.cell? ((a.add (r * 4)).add 3) = some (.int .u8 y.2.2.2)) := fun r hr => by
      obtain ⟨cs', h1, h2⟩ := hx r (by omega)
      obtain ⟨y, rfl, hb⟩ := op_in h2
      obtain ⟨-, -, hcell⟩ := World.cells?_some h1
      exact ⟨y, hb, ⟨by simpa using hcell 0 (by omega), by simpa using hcell 1 (by omega), by simpa using hcell 2 (by omega), by simpa using hcell 3 (by omega)⟩⟩
    obtain ⟨y, hy⟩ := choose_lt each
    have hp : 0 < n → a = ⟨a.block, a.off, none⟩ := fun h0 => by
      have := (hy 0 h0).2.1
      rw [Nat.zero_mul, add_add] at this
      exact addr_plain this
    have e : ∀ r j, r < n → (a.add (r * 4)).add j = ⟨a.block, a.off + r * 4 + j, none⟩ := fun r j hr => by
      rw [add_add, hp (by omega), add_plain, Nat.add_assoc]
    refine ⟨a.block, a.off, fun r => (y r).1, fun r => (y r).2.1, fun r => (y r).2.2.1, fun r => (y r).2.2.2, ⟨fun h0 => by rw [← hp h0], fun r hr => ?_, fun r hr => ?_, fun r hr => ?_, fun r hr => ?_, fun r hr => (hy r hr).1⟩⟩
    · have := (hy r hr).2.1
      rw [e r 0 hr] at this
      exact this
    · have := (hy r hr).2.2.1
      rw [e r 1 hr] at this
      exact this
    · have := (hy r hr).2.2.2.1
      rw [e r 2 hr] at this
      exact this
    · have := (hy r hr).2.2.2.2
      rw [e r 3 hr] at this
      exact this

theorem walk (w : World) (n k j : Int) (ta oa : Option Addr) (tl tc ol oc : Nat) (hn : 0 ≤ n ∧ n ≤ 255) (hk : 0 ≤ k ∧ k ≤ 255) (hj : 0 ≤ j ∧ j ≤ 255)
    (hA : ∃ ab ao A0 A1 A2 A3, COps w ta tl ab ao A0 A1 A2 A3) (hB : ∃ ab ao A0 A1 A2 A3, COps w oa ol ab ao A0 A1 A2 A3) :
    Calls Yba.prog 5 #[.int .u8 n, .int .u8 k, .int .u8 j, .slice ta tl tc, .slice oa ol oc] w fun e w' => e = .returned (.bool true) ∧ Below w.heap.size w w' := by
  by_cases h : 256 < tl ∨ 256 < ol
  · exact law_long w _ _ _ ta oa tl tc ol oc h
  · obtain ⟨tab, tao, A0, A1, A2, A3, hA⟩ := hA
    obtain ⟨oab, oao, B0, B1, B2, B3, hB⟩ := hB
    exact law_walk w n k j hn hk hj ta oa tl tc ol oc (by omega) (by omega) tab tao oab oao A0 A1 A2 A3 B0 B1 B2 B3 hA hB

set_option maxRecDepth 100000 in
theorem lifted (os : Os) (started : os.Started) (H : Type) (enc : TypeId × Value → H) :
    ReturnsInHanded {} Yba.checked os 5 .any (Rows.lawS3446CUnionSpec.pre6 enc Yba.prog Yba.f5 Rows.lawS3446CUnionRow.domain false) (Rows.lawS3446CUnionSpec.post enc Yba.prog Yba.f5 false true false false) := by
  refine returnsInHanded_of_change (C := Yba.checked) own started (by kernel_rfl) Yba.func5
    (ChangeSpec.witness6 (enc := enc) (C := Yba.checked) false ⟨#[], #[.int .u8 0, .int .u8 0, .int .u8 0, .slice none 0 0, .slice none 0 0], []⟩ 8 (by kernel_rfl) (by kernel_rfl) (by kernel_rfl) (by kernel_rfl)) ?_
  intro W base args ds gs before hval0 hW hcnd _
  have hval : ∀ (j : Nat) t v, Yba.f5.params[j]? = some t → args[j]? = some v → Value.okWide Yba.prog W .any base t v := hval0
  have hW' := hW
  obtain ⟨p, q, hA0, hV, rfl, hfz, hnd⟩ := hW
  have hA : DataW.TrodAll enc Yba.prog W 0 (fun _ => true) true Yba.f5.params.toList args.toList ds p := hA0
  rw [Yba.params5] at hA hval
  obtain ⟨v0, vs0, d0, ds0, p0, q0, hargs, rfl, rfl, h0, r0⟩ := trodAll_cons hA
  obtain ⟨v1, vs1, d1, ds1, p1, q1, rfl, rfl, rfl, h1, r1⟩ := trodAll_cons r0
  obtain ⟨v2, vs2, d2, ds2, p2, q2, rfl, rfl, rfl, h2, r2⟩ := trodAll_cons r1
  obtain ⟨v3, vs3, d3, ds3, p3, q3, rfl, rfl, rfl, h3, r3⟩ := trodAll_cons r2
  obtain ⟨v4, vs4, d4, ds4, p4, q4, rfl, rfl, rfl, h4, r4⟩ := trodAll_cons r3
  obtain ⟨rfl, rfl, rfl⟩ := trodAll_nil r4
  obtain rfl : args = #[v0, v1, v2, v3, v4] := by cases args; simp_all
  obtain ⟨rfl, rfl⟩ := trodVars_none hV
  obtain ⟨a0, rfl, rfl, rfl, w0⟩ := open_int Yba.underlying5 (hval 0 5 v0 rfl rfl) h0
  obtain ⟨a1, rfl, rfl, rfl, w1⟩ := open_int Yba.underlying5 (hval 1 5 v1 rfl rfl) h1
  obtain ⟨a2, rfl, rfl, rfl, w2⟩ := open_int Yba.underlying5 (hval 2 5 v2 rfl rfl) h2
  obtain ⟨ta, tl, tc, rfl⟩ := okWide_slice Yba.underlying38 (hval 3 38 v3 rfl rfl)
  have lt3 : ∀ x ∈ p3, x.block < W.heap.size := by obtain ⟨m, hm⟩ := h3; exact DataW.trod_lt m _ _ _ hm
  obtain ⟨oa, ol, oc, rfl⟩ := okWide_slice Yba.underlying38 (hval 4 38 v4 rfl rfl)
  have lt4 : ∀ x ∈ p4, x.block < W.heap.size := by obtain ⟨m, hm⟩ := h4; exact DataW.trod_lt m _ _ _ hm
  clear hA0 hval0
  refine (walk W a0 a1 a2 ta oa tl tc ol oc (bounds_u8 w0) (bounds_u8 w1) (bounds_u8 w2) (ops_in h3) (ops_in h4)).mono fun e W' ⟨he, bel⟩ => ?_
  subst he
  exact ⟨_, rfl, _, _, _, [], _, [], hW', trodAll_mk1 (shut_bool Yba.underlying4 _), (trodAll_cons_mk (shut_int Yba.underlying5 w0) (trodAll_cons_mk (shut_int Yba.underlying5 w1) (trodAll_cons_mk (shut_int Yba.underlying5 w2) (trodAll_cons_mk (Below.trod laidOut (by kernel_rfl) (of_decide_eq_true (by kernel_rfl)) h3 bel lt3) (trodAll_cons_mk (Below.trod laidOut (by kernel_rfl) (of_decide_eq_true (by kernel_rfl)) h4 bel lt4) trodAll_mk0))))), rfl, bel.frame _, fun h => by cases h⟩

theorem over : Rows.lawS3446CUnionRow.holds Yba.pinned (OpenSpec.ofChange Rows.lawS3446CUnionSpec) :=
  OpenClaim.holds_of_wide 5 Yba.f5 rfl rfl rfl rfl rfl rfl rfl ⟨rfl, rfl, rfl, rfl, rfl⟩ rfl rfl rfl rfl rfl (by kernel_rfl) Yba.func5 (by kernel_rfl)
    (of_decide_eq_true (by kernel_rfl)) (by unfold Func.isWrapper; first | (rw [if_pos (by decide +kernel)]; kernel_rfl) | (rw [if_neg (by decide +kernel)]; exact ⟨rfl, rfl⟩))
    (fun os started H enc _ => lifted os started H enc)

/-- ████ THE STATEMENT ████ -/
theorem proved : Rows.LawS3446CUnionSaid := over
#print axioms proved
end Go.Proofs.Ybulkbsio.lawS3446CUnion
