/-
  'Rows.LawS3447ASequenceSaid', PROVED: the frame is the guide's shell, the walk by contracts.
-/
import Derived.Test.YbulkbsjcSeed
import Derived.WalkKit
import Derived.ProofKit
import Derived.OpenShut
import Derived.ShutString
import Derived.Deep.LoopGhost
import Derived.Deep.Light
namespace Go.Proofs.Ybulkbsjc.lawS3447ASequence
open Go.ChangeShapes Go.WideShapes Go.ChangeAt Go.RowKit
open Go.ChangeMaps (open_string shut_string)
set_option linter.unusedVariables false      -- a walk need not use every 'w<i>' (that an integer argument fits its kind)

theorem own : ownKnob Yba.prog.godebug = none := by kernel_rfl

/-! ### STEP 1: THE WALK: the Go text returns true. 'Grown w w'': the world has at most new blocks (Derived/RowKit3.lean). Part the cases AHEAD of 'go_enter' where a test parts the walk; take each callee by a contract of your own. -/
theorem walk (a0 : Int) (a1 : Int) (w0 : (Lit.int .u64 a0).wf = true) (w1 : (Lit.int .u8 a1).wf = true) (w : World) :
    Calls Yba.prog 3 #[.int .u64 a0, .int .u8 a1] w fun e w' => e = .returned (.bool true) ∧ Below w.heap.size w w' := by
  have hb := bounds_u8 w1
  obtain ⟨n, rfl⟩ : ∃ n : Nat, a1 = n := ⟨a1.toNat, by omega⟩
  have hn : n ≤ 255 := by omega
  have hs : IntKind.u64.wrap (a0 + ((0 : Nat) : Int) * 11400714819323198485) = a0 := by
    have := bounds_u64 w0
    rw [wrap_u64]; omega
  have HS : Hid (IntKind.u64.wrap (a0 + ((0 : Nat) : Int) * 11400714819323198485) = a0) := hs
  clear hs hb w0 w1
  go_enter Yba.func3, Yba.ntmps3
  go_wp2
  go_loopg [6, 7, 8] (n + 1) (fun g st out i wx => wx = w ∧ ∃ k : Nat, k ≤ n + 1 ∧ g = n + 1 - k ∧ i = .int .i64 k ∧ st = .int .u64 (IntKind.u64.wrap (a0 + (k : Int) * 11400714819323198485)) ∧ (0 < k → out = .int .u64 (mixF (IntKind.u64.wrap (a0 + (k : Int) * 11400714819323198485)))))
  case atStart => exact ⟨rfl, 0, Nat.zero_le _, rfl, rfl, by rw [HS.out], fun h => absurd h (by omega)⟩
  case round =>
    obtain ⟨rfl, k, hk, rfl, rfl, rfl, hout⟩ := hrel
    by_cases hkn : k < n + 1
    · have hknz : (k : Int) ≤ (n : Int) := by omega
      clear hout
      go_wp2_with (go_at_call 6; refine (mix_any _ _).mono ?_; rintro e w' ⟨rfl, rfl⟩)
      go_roundg (n + 1 - (k + 1))
      case measure => go_light; omega
      case rel =>
        go_light
        refine ⟨rfl, k + 1, by omega, rfl, by go_num, ?_, fun _ => ?_⟩
        · rw [step_eq]
        · rw [step_eq]
    · obtain rfl : k = n + 1 := by omega
      have ho := hout (by omega)
      subst ho
      clear hout
      have HQ : Hid (IntKind.u64.wrap (IntKind.u64.wrap (a0 + IntKind.u64.wrap ((n : Int) * 11400714819323198485)) + 11400714819323198485) = IntKind.u64.wrap (a0 + ((n + 1 : Nat) : Int) * 11400714819323198485)) := seed_eq a0 n
      go_wp2_with fail
      refine (seed_any _ _ _).mono ?_
      rintro e w1 ⟨rfl, hb1⟩
      rw [HQ.out]
      go_wp2
      go_ret
      exact ⟨rfl, hb1⟩

/-! ### THE ROW's STEP: WRITTEN OUT: LEAVE IT -/
set_option maxRecDepth 100000 in
theorem lifted (os : Os) (started : os.Started) (H : Type) (enc : TypeId × Value → H) :
    ReturnsInHanded {} Yba.checked os 3 .any (Rows.lawS3447ASequenceSpec.pre6 enc Yba.prog Yba.f3 Rows.lawS3447ASequenceRow.domain false) (Rows.lawS3447ASequenceSpec.post enc Yba.prog Yba.f3 false true false false) := by
  refine returnsInHanded_of_change (C := Yba.checked) own started (by kernel_rfl) Yba.func3
    (ChangeSpec.witness6 (enc := enc) (C := Yba.checked) false ⟨#[], #[.int .u64 0, .int .u8 0], []⟩ 8 (by kernel_rfl) (by kernel_rfl) (by kernel_rfl) (by kernel_rfl)) ?_
  intro W base args ds gs before hval0 hW hcnd _
  have hval : ∀ (j : Nat) t v, Yba.f3.params[j]? = some t → args[j]? = some v → Value.okWide Yba.prog W .any base t v := hval0
  have hW' := hW
  obtain ⟨p, q, hA0, hV, rfl, hfz, hnd⟩ := hW
  have hA : DataW.TrodAll enc Yba.prog W 0 (fun _ => true) true Yba.f3.params.toList args.toList ds p := hA0
  rw [Yba.params3] at hA hval
  obtain ⟨v0, vs0, d0, ds0, p0, q0, hargs, rfl, rfl, h0, r0⟩ := trodAll_cons hA
  obtain ⟨v1, vs1, d1, ds1, p1, q1, rfl, rfl, rfl, h1, r1⟩ := trodAll_cons r0
  obtain ⟨rfl, rfl, rfl⟩ := trodAll_nil r1
  obtain rfl : args = #[v0, v1] := by cases args; simp_all
  obtain ⟨rfl, rfl⟩ := trodVars_none hV
  obtain ⟨a0, rfl, rfl, rfl, w0⟩ := open_int Yba.underlying22 (hval 0 22 v0 rfl rfl) h0
  obtain ⟨a1, rfl, rfl, rfl, w1⟩ := open_int Yba.underlying5 (hval 1 5 v1 rfl rfl) h1
  clear hA0 hval0
  refine (walk a0 a1 w0 w1 W).mono fun e W' ⟨he, hg⟩ => ?_
  subst he
  exact ⟨_, rfl, _, _, _, [], _, [], hW', trodAll_mk1 (shut_bool Yba.underlying4 _), (trodAll_cons_mk (shut_int Yba.underlying22 w0) (trodAll_cons_mk (shut_int Yba.underlying5 w1) trodAll_mk0)), rfl, hg.frame _, fun h => by cases h⟩

theorem over : Rows.lawS3447ASequenceRow.holds Yba.pinned (OpenSpec.ofChange Rows.lawS3447ASequenceSpec) :=
  OpenClaim.holds_of_wide 3 Yba.f3 rfl rfl rfl rfl rfl rfl rfl ⟨rfl, rfl, rfl, rfl, rfl⟩ rfl rfl rfl rfl rfl (by kernel_rfl) Yba.func3 (by kernel_rfl)
    (of_decide_eq_true (by kernel_rfl)) (by unfold Func.isWrapper; first | (rw [if_pos (by decide +kernel)]; kernel_rfl) | (rw [if_neg (by decide +kernel)]; exact ⟨rfl, rfl⟩))
    (fun os started H enc _ => lifted os started H enc)

/-- ████ THE STATEMENT ████ -/
theorem proved : Rows.LawS3447ASequenceSaid :=
  over
#print axioms proved
end Go.Proofs.Ybulkbsjc.lawS3447ASequence
