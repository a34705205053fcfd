/-
  'Rows.LawS3446ADiskCardSaid', PROVED: the row's statement, then the tied card.
-/
import Derived.Test.YbulkbsioDoorDiskW
import Derived.Test.YbulkbsioDoorTie
import Derived.Test.YbulkbsioDoorCards
import Derived.ProofKit
import Derived.OpenVars
import Derived.LaidMore
import Derived.OpenShut
import Derived.Stop.Joined
import Derived.Lib.LaidTab
import Derived.Deep.Slices
import Derived.SevenTiedAt
namespace Go.Proofs.YbulkbsioDoor.lawS3446ADisk
open Go.ChangeShapes Go.WideShapes Go.ChangeAt Go.RowKit

theorem own : ownKnob Ybad.prog.godebug = none := by kernel_rfl
theorem laidOut : laidOutB Ybad.prog = true := by kernel_rfl

/-- The door's own heap meets the condition. -/
theorem door_met (os : Os) (args : Array Value) : laidMetH Ybad.prog Rows.lawS3446ADiskRow.laid ((World.doorLaid Ybad.prog 400 os).forCall (fun _ _ => 0) ⟨#[], args, []⟩).memory :=
  laidMetH_of_parts3 (fuel := 8) (laidMet_of_run' 8 (by kernel_rfl) (by kernel_rfl)) (by kernel_rfl) (by kernel_rfl)

theorem Zw_size (z : Nat → Int) : (Zw z).size = 16 := rfl

set_option maxRecDepth 100000 in
/-- The parameter 'within': sixteen numbers. -/
theorem open_within {H : Type} {enc : TypeId × Value → H} {W : World} {r : Reach} {base : Nat} {v : Value} {d : DataW H} {p : List MemPlace} (hval : Value.okWide Ybad.prog W r base 27 v) (h : DataW.Trod enc Ybad.prog W 0 (fun _ => true) true 27 v d p) : ∃ z, v = .agg (Zw z) := by
  simp only [Value.okWide, Ybad.underlying27] at hval
  obtain ⟨A, rfl, hs, -⟩ := hval
  have c27 : Ybad.prog.cellsOf 27 = 16 := by kernel_rfl
  have c22 : Ybad.prog.cellsOf 22 = 1 := by kernel_rfl
  rw [c27] at hs
  obtain ⟨fuel, hf⟩ := h
  obtain ⟨xs, m, -, -, -, hn, hel⟩ := DataW.trod_array Ybad.underlying27 hf
  have each : ∀ i, i < 16 → ∃ z : Int, A[i]? = some (.int .u64 z) := fun i hi => by
    have h1 := hel i hi
    rw [c22, List.getElem?_eq_getElem (by omega)] at h1
    obtain ⟨z, hz, -, -⟩ := DataW.trod_int Ybad.underlying22 h1
    have := congrArg (·[0]?) hz
    exact ⟨z, by simpa [Value.cells, List.getElem?_take, List.getElem?_drop] using this⟩
  obtain ⟨z, hz⟩ := Go.Deep.choose_lt each
  have hA : A = Zw z := by
    apply Array.ext_getElem?
    intro i
    by_cases hi : i < 16
    · rw [hz i hi, Zw_get z i hi]
    · rw [Array.getElem?_eq_none (by omega), Array.getElem?_eq_none (by rw [Zw_size]; omega)]
  exact ⟨z, by rw [hA]⟩

theorem gBounds : Ybad.prog.globalNamed (Rows.lawS3446ADiskSpec.vars.headD default) = some 0 := by kernel_rfl
theorem tBounds : (Ybad.prog.globals[0]?).map (·.type) = some 90 := by kernel_rfl

/-- WHAT THE CONDITION GIVES THE WALK: the table's block. -/
theorem bounds_laid {W : World} (h : laidMetH Ybad.prog Rows.lawS3446ADiskRow.laid W) : ∃ t0 fr, W.heap[0]? = some (.cells BA t0 fr) := by
  rw [MakeChecks.laidMetH_plain _ _ _ (by kernel_rfl)] at h
  have h' : laidMet Ybad.prog [(Rows.lawS3446ADiskSpec.vars.headD default, Lib.tabData .i64 bnd)] W := h
  have hT := Lib.tabIs_of_head gBounds tBounds Ybad.underlying90 Ybad.underlying26 (by kernel_rfl) (by kernel_rfl) h'
  unfold Lib.TabIs World.var? at hT
  rw [gBounds] at hT
  simp only [Option.bind_some] at hT
  cases hh : W.heap[0]? with
  | none => rw [hh] at hT; simp at hT
  | some o =>
    rw [hh] at hT
    cases o with
    | cells c t z =>
      simp at hT
      refine ⟨t, z, ?_⟩
      rw [hT]
      rfl
    | _ => simp at hT

set_option maxRecDepth 100000 in
theorem lifted (os : Os) (started : os.Started) (H : Type) (enc : TypeId × Value → H) :
    ReturnsInHanded {} Ybad.checked os 4 .any (fun w args => (Rows.lawS3446ADiskSpec.pre enc Ybad.prog Ybad.f4 [] false w args ∧ laidMetH Ybad.prog Rows.lawS3446ADiskRow.laid w) ∧ sizedMet enc Ybad.prog Ybad.f4 (OpenSpec.ofChange Rows.lawS3446ADiskSpec) false w args)
      (Rows.lawS3446ADiskSpec.post enc Ybad.prog Ybad.f4 false true false false) := by
  refine returnsInHanded_of_change_and (C := Ybad.checked) (X := fun w _ => laidMetH Ybad.prog Rows.lawS3446ADiskRow.laid w) (fun _ _ _ hh h => h.of_heap hh) own started (by kernel_rfl) Ybad.func4
    (ChangeSpec.witness_shaped (enc := enc) (C := Ybad.checked) (os := os) (X := fun w _ => laidMetH Ybad.prog Rows.lawS3446ADiskRow.laid w) false (World.doorLaid Ybad.prog 400 os) #[.int .u64 0, .int .u64 0, .int .u64 0, .int .u64 0, .int .i64 0, .agg #[.int .u64 0, .int .u64 0, .int .u64 0, .int .u64 0, .int .u64 0, .int .u64 0, .int .u64 0, .int .u64 0, .int .u64 0, .int .u64 0, .int .u64 0, .int .u64 0, .int .u64 0, .int .u64 0, .int .u64 0, .int .u64 0]] 8 rfl (World.shaped_of_RefB (by kernel_rfl) (by kernel_rfl)) (by kernel_rfl) (by kernel_rfl) (by kernel_rfl) (door_met os _)) ?_
  intro W base args ds gs before hval0 hW _ _ hL _
  have hval : ∀ (j : Nat) t v, Ybad.f4.params[j]? = some t → args[j]? = some v → Value.okWide Ybad.prog W .any base t v := hval0
  have hW' := hW
  obtain ⟨p, q, hA0, hV0, rfl, hfz, hnd⟩ := hW
  have hA : DataW.TrodAll enc Ybad.prog W 0 (fun _ => true) true Ybad.f4.params.toList args.toList ds p := hA0
  have hV : DataW.TrodVars enc Ybad.prog W (fun _ => true) Rows.lawS3446ADiskSpec.vars gs q := hV0
  rw [Ybad.params4] at hA hval
  obtain ⟨v0, vs0, d0, ds0, p0, q0, hargs, rfl, rfl, h0, r0⟩ := trodAll_cons hA
  obtain ⟨v1, vs1, d1, ds1, p1, q1, rfl, rfl, rfl, h1, r1⟩ := trodAll_cons r0
  obtain ⟨v2, vs2, d2, ds2, p2, q2, rfl, rfl, rfl, h2, r2⟩ := trodAll_cons r1
  obtain ⟨v3, vs3, d3, ds3, p3, q3, rfl, rfl, rfl, h3, r3⟩ := trodAll_cons r2
  obtain ⟨v4, vs4, d4, ds4, p4, q4, rfl, rfl, rfl, h4, r4⟩ := trodAll_cons r3
  obtain ⟨v5, vs5, d5, ds5, p5, q5, rfl, rfl, rfl, h5, r5⟩ := trodAll_cons r4
  obtain ⟨rfl, rfl, rfl⟩ := trodAll_nil r5
  obtain rfl : args = #[v0, v1, v2, v3, v4, v5] := by cases args; simp_all
  obtain ⟨g, hgs⟩ : ∃ g, gs = [g] := by obtain ⟨_, _, _, _, d, _, hd, _⟩ := trodVars_one hV; exact ⟨d, hd⟩
  subst hgs
  obtain ⟨a0, rfl, rfl, rfl, w0⟩ := open_int Ybad.underlying22 (hval 0 22 v0 rfl rfl) h0
  obtain ⟨a1, rfl, rfl, rfl, w1⟩ := open_int Ybad.underlying22 (hval 1 22 v1 rfl rfl) h1
  obtain ⟨a2, rfl, rfl, rfl, w2⟩ := open_int Ybad.underlying22 (hval 2 22 v2 rfl rfl) h2
  obtain ⟨a3, rfl, rfl, rfl, w3⟩ := open_int Ybad.underlying22 (hval 3 22 v3 rfl rfl) h3
  obtain ⟨a4, rfl, rfl, rfl, w4⟩ := open_int Ybad.underlying2 (hval 4 2 v4 rfl rfl) h4
  have lt5 : ∀ x ∈ p5, x.block < W.heap.size := by obtain ⟨m, hm⟩ := h5; exact DataW.trod_lt m _ _ _ hm
  obtain ⟨z, rfl⟩ := open_within (hval 5 27 v5 rfl rfl) h5
  obtain ⟨t0, fr, hg0⟩ := bounds_laid hL
  clear hA0 hval0 hV0
  refine (disk_walk a0 a1 a2 a3 a4 z W t0 fr hg0).mono fun e W' ⟨he, bel⟩ => ?_
  subst he
  exact ⟨_, rfl, _, _, _, [], _, _, hW', trodAll_mk1 (shut_bool Ybad.underlying4 _), (trodAll_cons_mk (shut_int Ybad.underlying22 w0) (trodAll_cons_mk (shut_int Ybad.underlying22 w1) (trodAll_cons_mk (shut_int Ybad.underlying22 w2) (trodAll_cons_mk (shut_int Ybad.underlying22 w3) (trodAll_cons_mk (shut_int Ybad.underlying2 w4) (trodAll_cons_mk (Below.trod laidOut (by kernel_rfl) (of_decide_eq_true (by kernel_rfl)) h5 bel lt5) trodAll_mk0)))))), Below.trodVars laidOut bel (by kernel_rfl) hV, bel.frame _, fun h => by cases h⟩

theorem over : Rows.LawS3446ADiskSaid :=
  OpenClaim.holds_of_wide 4 Ybad.f4 rfl rfl rfl rfl rfl rfl rfl ⟨rfl, rfl, rfl, rfl, rfl⟩ rfl rfl rfl rfl rfl (by kernel_rfl) Ybad.func4 (by kernel_rfl)
    (of_decide_eq_true (by kernel_rfl)) (by unfold Func.isWrapper; first | (rw [if_pos (by decide +kernel)]; kernel_rfl) | (rw [if_neg (by decide +kernel)]; exact ⟨rfl, rfl⟩))
    (fun os started H enc _ => lifted os started H enc)

/-- ████ THE STATEMENT: THE TIED CARD ████ -/
theorem proved : Rows.LawS3446ADiskCardSaid :=
  Claim7.holds_tied_plain_at .later [] [.data] true Rows.lawS3446ADiskCard.stood.harness false
    over (fun _ h => by cases h) (by kernel_rfl) (fun _ h => by cases h) lawS3446ADisk_row_tie rfl ⟨rfl, rfl⟩ (by kernel_rfl) rfl
    (fun f fn hf hfn => by
      obtain rfl : f = 4 := Option.some.inj ((show Ybad.prog.funcNamed Rows.lawS3446ADiskRow.func = some 4 by kernel_rfl).symm.trans hf) |>.symm
      obtain rfl : fn = Ybad.f4 := (Option.some.inj (Ybad.func4.symm.trans hfn)).symm
      exact ⟨by kernel_rfl, fun j t ht => by
        rw [Ybad.params4] at ht
        have hm : t ∈ [22, 22, 22, 22, 2, 27] := by simpa using Array.mem_of_getElem? ht
        have hall : ([22, 22, 22, 22, 2, 27].all fun u => !Ybad.prog.wantsStandIn u) = true := by kernel_rfl
        exact (show Ybad.prog.wantsStandIn t = false by simpa using List.all_eq_true.1 hall t hm)⟩)
    (by kernel_rfl)
#print axioms proved
end Go.Proofs.YbulkbsioDoor.lawS3446ADisk
