/-
  'Rows.LawS3447BMaxFractionSaid', PROVED.
-/
import Derived.Test.YbulkbsjcLawB
import Derived.ProofKit
import Derived.OpenShut
import Derived.Deep.Matrix
import Derived.Deep.Strs
import Derived.ShutString
import Derived.ChangeOld
namespace Go.Proofs.Ybulkbsjc.lawS3447BMaxFraction
open Go.ChangeShapes Go.WideShapes Go.ChangeAt Go.RowKit Go.Deep

theorem own : ownKnob Yba.prog.godebug = none := by kernel_rfl
theorem laidOut : laidOutB Yba.prog = true := by kernel_rfl
theorem cells5 : Yba.prog.cellsOf 5 = 1 := by kernel_rfl
theorem cells35 : Yba.prog.cellsOf 35 = 3 := by kernel_rfl

theorem addr_plain {w : World} {a : Addr} {v : Value} (h : w.cell? (a.add 0) = some v) : a = ⟨a.block, a.off, none⟩ := by
  obtain ⟨b, off, spot⟩ := a
  have hspot : spot = none := by simpa [Addr.add] using World.cell?_spot h
  subst hspot
  rfl

theorem op_in {H : Type} {enc : TypeId × Value → H} {w : World} {n : Nat} {cs : List Value} {x : DataW H × List MemPlace} (h : DataW.trod enc Yba.prog w 0 (fun _ => true) true n 35 cs = some x) :
    ∃ y : Nat × Nat × Nat, cs = [.int .u8 y.1, .int .u8 y.2.1, .int .u8 y.2.2] ∧ y.1 ≤ 255 ∧ y.2.1 ≤ 255 ∧ y.2.2 ≤ 255 := by
  obtain ⟨y0, y1, y2, m, -, hl, h0, h1, h2⟩ := trod_struct3 Yba.underlying35 h
  rw [cells35] at hl
  match cs, hl with
  | [c0, c1, c2], _ =>
    simp only [List.drop_zero, cells5, List.take_succ_cons, List.take_zero, List.drop_succ_cons] at h0 h1 h2
    obtain ⟨a, e0, -, wa⟩ := DataW.trod_int Yba.underlying5 h0
    obtain ⟨b, e1, -, wb⟩ := DataW.trod_int Yba.underlying5 h1
    obtain ⟨c, e2, -, wc⟩ := DataW.trod_int Yba.underlying5 h2
    simp only [List.cons.injEq, and_true] at e0 e1 e2
    subst e0 e1 e2
    have ha := bounds_u8 wa
    have hb := bounds_u8 wb
    have hc := bounds_u8 wc
    refine ⟨(a.toNat, b.toNat, c.toNat), ?_, by show a.toNat ≤ 255; omega, by show b.toNat ≤ 255; omega, by show c.toNat ≤ 255; omega⟩
    rw [Int.toNat_of_nonneg ha.1, Int.toNat_of_nonneg hb.1, Int.toNat_of_nonneg hc.1]

theorem ops_in {H : Type} {enc : TypeId × Value → H} {w : World} {va : Option Addr} {n cap : Nat} {d : DataW H} {p : List MemPlace} (h : DataW.Trod enc Yba.prog w 0 (fun _ => true) true 27 (.slice va n cap) d p) :
    ∃ ab ao A0 A1 A2, OpsIn w va n ab ao A0 A1 A2 := by
  obtain ⟨fuel, hf⟩ := h
  rcases open_slice Yba.underlying27 hf with ⟨hcs, -⟩ | ⟨a, len, cap', m, k, D, Pl, hcs, -, hl, hm, hmm, -, hx⟩
  · simp only [Value.cells, List.cons.injEq, Value.slice.injEq] at hcs
    obtain ⟨⟨rfl, rfl, rfl⟩, -⟩ := hcs
    exact ⟨0, 0, fun _ => 0, fun _ => 0, fun _ => 0, ⟨fun h => by omega, fun r hr => by omega, fun r hr => by omega, fun r hr => by omega, fun r hr => by omega⟩⟩
  · simp only [Value.cells, List.cons.injEq, Value.slice.injEq] at hcs
    obtain ⟨⟨rfl, rfl, rfl⟩, -⟩ := hcs
    simp only [if_true] at hmm
    rw [cells35] at hx
    have each : ∀ r, r < n → ∃ y : Nat × Nat × Nat, (y.1 ≤ 255 ∧ y.2.1 ≤ 255 ∧ y.2.2 ≤ 255) ∧
        (w.cell? ((a.add (r * 3)).add 0) = some (.int .u8 y.1) ∧ w.cell? ((a.add (r * 3)).add 1) = some (.int .u8 y.2.1) ∧ w.cell? ((a.add (r * 3)).add 2) = some (.int .u8 y.2.2)) := fun r hr => by
      obtain ⟨cs', h1, h2⟩ := hx r (by omega)
      obtain ⟨y, rfl, hb⟩ := op_in h2
      obtain ⟨-, -, hcell⟩ := World.cells?_some h1
      exact ⟨y, hb, ⟨by simpa using hcell 0 (by omega), by simpa using hcell 1 (by omega), by simpa using hcell 2 (by omega)⟩⟩
    obtain ⟨y, hy⟩ := choose_lt each
    have hp : 0 < n → a = ⟨a.block, a.off, none⟩ := fun h0 => by
      have := (hy 0 h0).2.1
      rw [Nat.zero_mul, add_add] at this
      exact addr_plain this
    have e : ∀ r j, r < n → (a.add (r * 3)).add j = ⟨a.block, a.off + r * 3 + j, none⟩ := fun r j hr => by
      rw [add_add, hp (by omega), add_plain, Nat.add_assoc]
    refine ⟨a.block, a.off, fun r => (y r).1, fun r => (y r).2.1, fun r => (y r).2.2, ⟨fun h0 => by rw [← hp h0], fun r hr => ?_, fun r hr => ?_, fun r hr => ?_, fun r hr => (hy r hr).1⟩⟩
    · have := (hy r hr).2.1
      rw [e r 0 hr] at this
      exact this
    · have := (hy r hr).2.2.1
      rw [e r 1 hr] at this
      exact this
    · have := (hy r hr).2.2.2
      rw [e r 2 hr] at this
      exact this

theorem walk (w : World) (va : Option Addr) (n cap : Nat) (h : ∃ ab ao A0 A1 A2, OpsIn w va n ab ao A0 A1 A2) :
    Calls Yba.prog 5 #[.slice va n cap] w fun e w' => e = .returned (.bool true) ∧ Below w.heap.size w w' := by
  by_cases hn : 1024 < n
  · exact law_long w va n cap hn
  · obtain ⟨ab, ao, A0, A1, A2, hO⟩ := h
    exact law_walk w va n cap ab ao A0 A1 A2 hO (by omega)

set_option maxRecDepth 100000 in
theorem lifted (os : Os) (started : os.Started) (H : Type) (enc : TypeId × Value → H) :
    ReturnsInHanded {} Yba.checked os 5 .any (Rows.lawS3447BMaxFractionSpec.pre6 enc Yba.prog Yba.f5 Rows.lawS3447BMaxFractionRow.domain false) (Rows.lawS3447BMaxFractionSpec.post enc Yba.prog Yba.f5 false true false false) := by
  refine returnsInHanded_of_change (C := Yba.checked) own started (by kernel_rfl) Yba.func5
    (ChangeSpec.witness6 (enc := enc) (C := Yba.checked) false ⟨#[], #[.slice none 0 0], []⟩ 8 (by kernel_rfl) (by kernel_rfl) (by kernel_rfl) (by kernel_rfl)) ?_
  intro W base args ds gs before hval0 hW hcnd _
  have hval : ∀ (j : Nat) t v, Yba.f5.params[j]? = some t → args[j]? = some v → Value.okWide Yba.prog W .any base t v := hval0
  have hW' := hW
  obtain ⟨p, q, hA0, hV, rfl, hfz, hnd⟩ := hW
  have hA : DataW.TrodAll enc Yba.prog W 0 (fun _ => true) true Yba.f5.params.toList args.toList ds p := hA0
  rw [Yba.params5] at hA hval
  obtain ⟨v0, vs0, d0, ds0, p0, q0, hargs, rfl, rfl, h0, r0⟩ := trodAll_cons hA
  obtain ⟨rfl, rfl, rfl⟩ := trodAll_nil r0
  obtain rfl : args = #[v0] := by cases args; simp_all
  obtain ⟨rfl, rfl⟩ := trodVars_none hV
  obtain ⟨ra, rl, rc, rfl⟩ := okWide_slice Yba.underlying27 (hval 0 27 v0 rfl rfl)
  have lt0 : ∀ x ∈ p0, x.block < W.heap.size := by obtain ⟨m, hm⟩ := h0; exact DataW.trod_lt m _ _ _ hm
  clear hA0 hval0
  refine (walk W ra rl rc (ops_in h0)).mono fun e W' ⟨he, bel⟩ => ?_
  subst he
  exact ⟨_, rfl, _, _, _, [], _, [], hW', trodAll_mk1 (shut_bool Yba.underlying4 _), (trodAll_cons_mk (Below.trod laidOut (by kernel_rfl) (of_decide_eq_true (by kernel_rfl)) h0 bel lt0) trodAll_mk0), rfl, bel.frame _, fun h => by cases h⟩

theorem over : Rows.lawS3447BMaxFractionRow.holds Yba.pinned (OpenSpec.ofChange Rows.lawS3447BMaxFractionSpec) :=
  OpenClaim.holds_of_wide 5 Yba.f5 rfl rfl rfl rfl rfl rfl rfl ⟨rfl, rfl, rfl, rfl, rfl⟩ rfl rfl rfl rfl rfl (by kernel_rfl) Yba.func5 (by kernel_rfl)
    (of_decide_eq_true (by kernel_rfl)) (by unfold Func.isWrapper; first | (rw [if_pos (by decide +kernel)]; kernel_rfl) | (rw [if_neg (by decide +kernel)]; exact ⟨rfl, rfl⟩))
    (fun os started H enc _ => lifted os started H enc)

/-- ████ THE STATEMENT ████ -/
theorem proved : Rows.LawS3447BMaxFractionSaid := over
#print axioms proved
end Go.Proofs.Ybulkbsjc.lawS3447BMaxFraction
