/-
  'Rows.LawS3446BHoldsSaid', PROVED.
-/
import Derived.Test.YbulkbsioHoldsW
import Derived.Test.YbulkbsioOpen
import Derived.ShutString
import Derived.ChangeOld
namespace Go.Proofs.Ybulkbsio.lawS3446BHolds
open Go.ChangeShapes Go.WideShapes Go.ChangeAt Go.RowKit

theorem own : ownKnob Yba.prog.godebug = none := by kernel_rfl
theorem laidOut : laidOutB Yba.prog = true := by kernel_rfl

theorem walk (w : World) (n : Int) (ra : Option Addr) (rl rc : Nat) (ua : Option Addr) (ul uc : Nat) (k node time : Int) (hn : 0 ≤ n ∧ n ≤ 255) (hk : 0 ≤ k ∧ k ≤ 255) (hu : 0 ≤ node ∧ node ≤ 255) (ht0 : 0 ≤ time) (ht : time < 18446744073709551616)
    (hR : ∃ gb go A L C RB RO Z, RowsIn w ra rl gb go A L C RB RO Z) (hU : ∃ ub uo nd fr A L C RB RO Z, RunsIn w ua ul ub uo nd fr A L C RB RO Z) :
    Calls Yba.prog 4 #[.int .u8 n, .slice ra rl rc, .slice ua ul uc, .int .u8 k, .int .u8 node, .int .u64 time] w fun e w' => e = .returned (.bool true) ∧ Below w.heap.size w w' := by
  by_cases hul : 1024 < ul
  · exact holds_long w _ _ ua ul uc _ _ _ hul
  · by_cases hz : time = 0
    · subst hz
      exact holds_zero w _ _ ua ul uc _ _ (by omega)
    · obtain ⟨gb, go, A, L, C, RB, RO, Z, hR⟩ := hR
      obtain ⟨ub, uo, nd, fr, A', L', C', RB', RO', Z', hU⟩ := hU
      obtain ⟨nn, hnn⟩ : ∃ nn : Nat, n % 6 + 1 = nn := ⟨(n % 6 + 1).toNat, by omega⟩
      have hp : 0 < (nn : Int) := by omega
      have k1 := Int.emod_nonneg k (show (nn : Int) ≠ 0 by omega)
      have k2 := Int.emod_lt_of_pos k hp
      have u1 := Int.emod_nonneg node (show (nn : Int) ≠ 0 by omega)
      have u2 := Int.emod_lt_of_pos node hp
      exact holds_walk w n hn.1 hn.2 nn hnn ra rl rc gb go A L C RB RO Z ua ul uc ub uo nd fr A' L' C' RB' RO' Z' k node time (k % nn).toNat (node % nn).toNat hk hu (by omega) (by omega) (by omega) (by omega) (by omega) ht hR hU (by omega)

set_option maxRecDepth 100000 in
theorem lifted (os : Os) (started : os.Started) (H : Type) (enc : TypeId × Value → H) :
    ReturnsInHanded {} Yba.checked os 4 .any (Rows.lawS3446BHoldsSpec.pre6 enc Yba.prog Yba.f4 Rows.lawS3446BHoldsRow.domain false) (Rows.lawS3446BHoldsSpec.post enc Yba.prog Yba.f4 false true false false) := by
  refine returnsInHanded_of_change (C := Yba.checked) own started (by kernel_rfl) Yba.func4
    (ChangeSpec.witness6 (enc := enc) (C := Yba.checked) false ⟨#[], #[.int .u8 0, .slice none 0 0, .slice none 0 0, .int .u8 0, .int .u8 0, .int .u64 0], []⟩ 8 (by kernel_rfl) (by kernel_rfl) (by kernel_rfl) (by kernel_rfl)) ?_
  intro W base args ds gs before hval0 hW hcnd _
  have hval : ∀ (j : Nat) t v, Yba.f4.params[j]? = some t → args[j]? = some v → Value.okWide Yba.prog W .any base t v := hval0
  have hW' := hW
  obtain ⟨p, q, hA0, hV, rfl, hfz, hnd⟩ := hW
  have hA : DataW.TrodAll enc Yba.prog W 0 (fun _ => true) true Yba.f4.params.toList args.toList ds p := hA0
  rw [Yba.params4] at hA hval
  obtain ⟨v0, vs0, d0, ds0, p0, q0, hargs, rfl, rfl, h0, r0⟩ := trodAll_cons hA
  obtain ⟨v1, vs1, d1, ds1, p1, q1, rfl, rfl, rfl, h1, r1⟩ := trodAll_cons r0
  obtain ⟨v2, vs2, d2, ds2, p2, q2, rfl, rfl, rfl, h2, r2⟩ := trodAll_cons r1
  obtain ⟨v3, vs3, d3, ds3, p3, q3, rfl, rfl, rfl, h3, r3⟩ := trodAll_cons r2
  obtain ⟨v4, vs4, d4, ds4, p4, q4, rfl, rfl, rfl, h4, r4⟩ := trodAll_cons r3
  obtain ⟨v5, vs5, d5, ds5, p5, q5, rfl, rfl, rfl, h5, r5⟩ := trodAll_cons r4
  obtain ⟨rfl, rfl, rfl⟩ := trodAll_nil r5
  obtain rfl : args = #[v0, v1, v2, v3, v4, v5] := by cases args; simp_all
  obtain ⟨rfl, rfl⟩ := trodVars_none hV
  obtain ⟨a0, rfl, rfl, rfl, w0⟩ := open_int Yba.underlying5 (hval 0 5 v0 rfl rfl) h0
  obtain ⟨ra, rl, rc, rfl⟩ := okWide_slice Yba.underlying22 (hval 1 22 v1 rfl rfl)
  have lt1 : ∀ x ∈ p1, x.block < W.heap.size := by obtain ⟨m, hm⟩ := h1; exact DataW.trod_lt m _ _ _ hm
  obtain ⟨ua, ul, uc, rfl⟩ := okWide_slice Yba.underlying23 (hval 2 23 v2 rfl rfl)
  have lt2 : ∀ x ∈ p2, x.block < W.heap.size := by obtain ⟨m, hm⟩ := h2; exact DataW.trod_lt m _ _ _ hm
  obtain ⟨a3, rfl, rfl, rfl, w3⟩ := open_int Yba.underlying5 (hval 3 5 v3 rfl rfl) h3
  obtain ⟨a4, rfl, rfl, rfl, w4⟩ := open_int Yba.underlying5 (hval 4 5 v4 rfl rfl) h4
  obtain ⟨a5, rfl, rfl, rfl, w5⟩ := open_int Yba.underlying24 (hval 5 24 v5 rfl rfl) h5
  clear hA0 hval0
  refine (walk W a0 ra rl rc ua ul uc a3 a4 a5 (bounds_u8 w0) (bounds_u8 w3) (bounds_u8 w4) (by have := bounds_u64 w5; omega) (by have := bounds_u64 w5; omega) (rows_in h1) (runs_in h2)).mono fun e W' ⟨he, bel⟩ => ?_
  subst he
  exact ⟨_, rfl, _, _, _, [], _, [], hW', trodAll_mk1 (shut_bool Yba.underlying4 _), (trodAll_cons_mk (shut_int Yba.underlying5 w0) (trodAll_cons_mk (Below.trod laidOut (by kernel_rfl) (of_decide_eq_true (by kernel_rfl)) h1 bel lt1) (trodAll_cons_mk (Below.trod laidOut (by kernel_rfl) (of_decide_eq_true (by kernel_rfl)) h2 bel lt2) (trodAll_cons_mk (shut_int Yba.underlying5 w3) (trodAll_cons_mk (shut_int Yba.underlying5 w4) (trodAll_cons_mk (shut_int Yba.underlying24 w5) trodAll_mk0)))))), rfl, bel.frame _, fun h => by cases h⟩

theorem over : Rows.lawS3446BHoldsRow.holds Yba.pinned (OpenSpec.ofChange Rows.lawS3446BHoldsSpec) :=
  OpenClaim.holds_of_wide 4 Yba.f4 rfl rfl rfl rfl rfl rfl rfl ⟨rfl, rfl, rfl, rfl, rfl⟩ rfl rfl rfl rfl rfl (by kernel_rfl) Yba.func4 (by kernel_rfl)
    (of_decide_eq_true (by kernel_rfl)) (by unfold Func.isWrapper; first | (rw [if_pos (by decide +kernel)]; kernel_rfl) | (rw [if_neg (by decide +kernel)]; exact ⟨rfl, rfl⟩))
    (fun os started H enc _ => lifted os started H enc)

/-- ████ THE STATEMENT ████ -/
theorem proved : Rows.LawS3446BHoldsSaid := over
#print axioms proved
end Go.Proofs.Ybulkbsio.lawS3446BHolds
