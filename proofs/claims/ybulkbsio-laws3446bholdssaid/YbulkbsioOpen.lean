/-
  THE ARGUMENTS OF THE 'lower' LAWS, OPENED: 'rows' ([][]uint64), 'runs' ([]ZzS3446BRun).
-/
import Derived.Test.YbulkbsioBuild
import Derived.ProofKit
import Derived.OpenShut
import Derived.Deep.Matrix
import Derived.Deep.Strs
namespace Go.Proofs.Ybulkbsio
open Go.RowKit Go.Deep Go.ChangeShapes Go.WideShapes

theorem Yba.cells5 : Yba.prog.cellsOf 5 = 1 := by kernel_rfl
theorem Yba.cells24 : Yba.prog.cellsOf 24 = 1 := by kernel_rfl
theorem Yba.cells32 : Yba.prog.cellsOf 32 = 1 := by kernel_rfl
theorem Yba.cells53 : Yba.prog.cellsOf 53 = 3 := by kernel_rfl

/-- An address under which a cell lies is a plain one. -/
theorem addr_plain {w : World} {a : Addr} {v : Value} (h : w.cell? (a.add 0) = some v) : a = ⟨a.block, a.off, none⟩ := by
  obtain ⟨b, off, spot⟩ := a
  have hspot : spot = none := by simpa [Addr.add] using World.cell?_spot h
  subst hspot
  rfl

theorem rows_in {H : Type} {enc : TypeId × Value → H} {w : World} {ra : Option Addr} {rl rc : Nat} {d : DataW H} {p : List MemPlace} (h : DataW.Trod enc Yba.prog w 0 (fun _ => true) true 22 (.slice ra rl rc) d p) :
    ∃ gb go A L C RB RO Z, RowsIn w ra rl gb go A L C RB RO Z := by
  obtain ⟨fuel, hf⟩ := h
  rcases open_int_rows Yba.underlying22 Yba.underlying32 Yba.underlying24 Yba.cells32 Yba.cells24 hf with ⟨hcs, -⟩ | ⟨a, len, cap, A, L, C, Z, hcs, -, hl, hm, -, hx⟩
  · simp only [Value.cells, List.cons.injEq, Value.slice.injEq] at hcs
    obtain ⟨⟨rfl, rfl, rfl⟩, -⟩ := hcs
    exact ⟨0, 0, fun _ => none, fun _ => 0, fun _ => 0, fun _ => 0, fun _ => 0, fun _ _ => 0, ⟨fun h => by omega, fun r hr => by omega, fun r hr => by omega, by omega, fun r hr => by omega⟩⟩
  · simp only [Value.cells, List.cons.injEq, Value.slice.injEq] at hcs
    obtain ⟨⟨rfl, rfl, rfl⟩, -⟩ := hcs
    unfold maxLen at hm
    refine ⟨a.block, a.off, A, L, C, fun r => ((A r).getD default).block, fun r => ((A r).getD default).off, fun r c => (Z r).getD c 0, ⟨fun h0 => ?_, fun r hr => ?_, fun r hr c hc => ?_, by omega, fun r hr => ?_⟩⟩
    · rw [addr_plain (hx 0 (by omega)).1]
    · have h0 := addr_plain (hx 0 (by omega)).1
      have := (hx r (by omega)).1
      rw [h0, add_plain] at this
      exact this
    · obtain ⟨-, hLC, hCm, -, -, hn, hs⟩ := hx r (by omega)
      cases hA : A r with
      | none => have := hn hA; omega
      | some a' =>
        obtain ⟨-, hc'⟩ := hs a' hA
        have h0 := addr_plain (hc' 0 (by omega))
        have := hc' c (by omega)
        rw [h0, add_plain] at this
        exact ⟨by simp only [Option.getD_some]; rw [← h0], this⟩
    · obtain ⟨-, hLC, hCm, -⟩ := hx r (by omega)
      unfold maxLen at hCm
      omega

theorem run_in {H : Type} {enc : TypeId × Value → H} {w : World} {n : Nat} {cs : List Value} {x : DataW H × List MemPlace} (h : DataW.trod enc Yba.prog w 0 (fun _ => true) true n 53 cs = some x) :
    ∃ y : Int × Int × Option Addr × Nat × Nat × Nat × Nat × (Nat → Int), cs = [.int .u8 y.1, .int .u64 y.2.1, .slice y.2.2.1 y.2.2.2.1 y.2.2.2.2.1] ∧ (0 ≤ y.1 ∧ y.1 ≤ 255) ∧ y.2.2.2.1 ≤ 9223372036854775807 ∧
      ∀ c, c < y.2.2.2.1 → y.2.2.1 = some ⟨y.2.2.2.2.2.1, y.2.2.2.2.2.2.1, none⟩ ∧ w.cell? ⟨y.2.2.2.2.2.1, y.2.2.2.2.2.2.1 + c, none⟩ = some (.int .u64 (y.2.2.2.2.2.2.2 c)) := by
  obtain ⟨y0, y1, y2, m, -, hl, h0, h1, h2⟩ := trod_struct3 Yba.underlying53 h
  rw [Yba.cells53] at hl
  match cs, hl with
  | [c0, c1, c2], _ =>
    simp only [List.drop_zero, Yba.cells5, Yba.cells24, Yba.cells32, List.take_succ_cons, List.take_zero, List.drop_succ_cons] at h0 h1 h2
    obtain ⟨a, e0, -, wa⟩ := DataW.trod_int Yba.underlying5 h0
    obtain ⟨f, e1, -, wf⟩ := DataW.trod_int Yba.underlying24 h1
    simp only [List.cons.injEq, and_true] at e0 e1
    subst e0 e1
    have hb := bounds_u8 wa
    rcases open_ints Yba.underlying32 Yba.underlying24 Yba.cells24 h2 with ⟨hcs, -⟩ | ⟨a', len', cap', zs, hcs, -, hl', hm', hz, -, hcell, -⟩
    · simp only [List.cons.injEq, and_true] at hcs
      subst hcs
      exact ⟨(a, f, none, 0, 0, 0, 0, fun _ => 0), rfl, by omega, by simp, fun c hc => by simp at hc⟩
    · simp only [List.cons.injEq, and_true] at hcs
      subst hcs
      simp only [if_true] at hz
      unfold maxLen at hm'
      refine ⟨(a, f, some a', len', cap', a'.block, a'.off, fun c => zs.getD c 0), rfl, by omega, by show len' ≤ _; omega, fun c hc => ?_⟩
      have hc' : c < len' := hc
      have h0 := addr_plain (hcell 0 (by omega))
      have := hcell c (by omega)
      rw [h0, add_plain] at this
      exact ⟨by show some a' = _; rw [← h0], this⟩

theorem runs_in {H : Type} {enc : TypeId × Value → H} {w : World} {ua : Option Addr} {ul uc : Nat} {d : DataW H} {p : List MemPlace} (h : DataW.Trod enc Yba.prog w 0 (fun _ => true) true 23 (.slice ua ul uc) d p) :
    ∃ ub uo nd fr A L C RB RO Z, RunsIn w ua ul ub uo nd fr A L C RB RO Z := by
  obtain ⟨fuel, hf⟩ := h
  rcases open_slice Yba.underlying23 hf with ⟨hcs, -⟩ | ⟨a, len, cap, m, n, D, Pl, hcs, -, hl, hm, hmm, -, hx⟩
  · simp only [Value.cells, List.cons.injEq, Value.slice.injEq] at hcs
    obtain ⟨⟨rfl, rfl, rfl⟩, -⟩ := hcs
    exact ⟨0, 0, fun _ => 0, fun _ => 0, fun _ => none, fun _ => 0, fun _ => 0, fun _ => 0, fun _ => 0, fun _ _ => 0, ⟨fun h => by omega, fun r hr => by omega, fun r hr => by omega, fun r hr => by omega, fun r hr => by omega, fun r hr => by omega, fun r hr => by omega⟩⟩
  · simp only [Value.cells, List.cons.injEq, Value.slice.injEq] at hcs
    obtain ⟨⟨rfl, rfl, rfl⟩, -⟩ := hcs
    simp only [if_true] at hmm
    rw [Yba.cells53] at hx
    have each : ∀ r, r < ul → ∃ y : Int × Int × Option Addr × Nat × Nat × Nat × Nat × (Nat → Int), (0 ≤ y.1 ∧ y.1 ≤ 255) ∧ y.2.2.2.1 ≤ 9223372036854775807 ∧
        (w.cell? ((a.add (r * 3)).add 0) = some (.int .u8 y.1) ∧ w.cell? ((a.add (r * 3)).add 1) = some (.int .u64 y.2.1) ∧ w.cell? ((a.add (r * 3)).add 2) = some (.slice y.2.2.1 y.2.2.2.1 y.2.2.2.2.1)) ∧
        ∀ c, c < y.2.2.2.1 → y.2.2.1 = some ⟨y.2.2.2.2.2.1, y.2.2.2.2.2.2.1, none⟩ ∧ w.cell? ⟨y.2.2.2.2.2.1, y.2.2.2.2.2.2.1 + c, none⟩ = some (.int .u64 (y.2.2.2.2.2.2.2 c)) := fun r hr => by
      obtain ⟨cs', h1, h2⟩ := hx r (by omega)
      obtain ⟨y, rfl, hb, hl', hc⟩ := run_in h2
      obtain ⟨-, -, hcell⟩ := World.cells?_some h1
      exact ⟨y, hb, hl', ⟨by simpa using hcell 0 (by omega), by simpa using hcell 1 (by omega), by simpa using hcell 2 (by omega)⟩, hc⟩
    obtain ⟨y, hy⟩ := choose_lt each
    have hp : 0 < ul → a = ⟨a.block, a.off, none⟩ := fun h0 => by
      have := (hy 0 h0).2.2.1.1
      rw [Nat.zero_mul, add_add] at this
      exact addr_plain this
    have e : ∀ r j, r < ul → (a.add (r * 3)).add j = ⟨a.block, a.off + r * 3 + j, none⟩ := fun r j hr => by
      rw [add_add, hp (by omega), add_plain, Nat.add_assoc]
    refine ⟨a.block, a.off, fun r => (y r).1, fun r => (y r).2.1, fun r => (y r).2.2.1, fun r => (y r).2.2.2.1, fun r => (y r).2.2.2.2.1, fun r => (y r).2.2.2.2.2.1, fun r => (y r).2.2.2.2.2.2.1, fun r => (y r).2.2.2.2.2.2.2,
      ⟨fun h0 => by rw [← hp h0], fun r hr => ?_, fun r hr => ?_, fun r hr => ?_, fun r hr => (hy r hr).2.2.2, fun r hr => (hy r hr).1, fun r hr => (hy r hr).2.1⟩⟩
    · have := (hy r hr).2.2.1.1
      rw [e r 0 hr] at this
      exact this
    · have := (hy r hr).2.2.1.2.1
      rw [e r 1 hr] at this
      exact this
    · have := (hy r hr).2.2.1.2.2
      rw [e r 2 hr] at this
      exact this

end Go.Proofs.Ybulkbsio
