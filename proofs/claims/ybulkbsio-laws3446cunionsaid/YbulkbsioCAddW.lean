import Derived.Test.YbulkbsioCAdd
namespace Go.Proofs.Ybulkbsio
open Go.RowKit Go.Deep

set_option maxHeartbeats 8000000 in
set_option maxRecDepth 100000 in
theorem add_any (w : World) (S : Nat → Prop) (tb n rb : Nat) (R : Nat → Nat) (X : Nat → Nat → Int) (rs : List Rn) (v0 v1 : Value) (k uu : Nat) (T : Int) (h6 : n ≤ 6) (hk : k < n) (hu : uu < n) (hT1 : 1 ≤ T) (hT2 : T ≤ 1000)
    (hT : TB w S tb n v0 v1 rb R X rs) (hg : Good n rs) (hrl : rs.length ≤ 10000) (hSb : ∀ j, S j → j < w.heap.size) :
    Calls Yba.prog 17 #[.pointer (some ⟨tb, 0, none⟩), .int .i64 ((k : Int) + 1), .agg #[.int .i64 ((uu : Int) + 1), .int .u64 T]] w fun e w' => e = .returned (.tuple #[]) ∧ Left w w' S tb n v0 rb R X rs 1 (fun a u t => a = k ∧ u = uu ∧ t = T) := by
  obtain ⟨va, cap, rfl, hcap, hcm, -⟩ := hT.tab.slice
  obtain rfl := hT.tab.hv0
  obtain ⟨W0, hW0⟩ : ∃ W0, w.alloc (.cells #[.int .i64 ((uu : Int) + 1), .int .u64 T] 31) = W0 := ⟨_, rfl⟩
  have hB0 : Below w.heap.size w W0 := by rw [← hW0]; exact (Below.refl _ _).alloc (Nat.le_refl _) _
  have htg : W0.heap[w.heap.size]? = some (.cells #[.int .i64 ((uu : Int) + 1), .int .u64 T] 31 (0, 0)) := by rw [← hW0]; exact blk_alloc_new _ _
  have hTW := hT.later hB0
  have t0 : W0.cell? ⟨w.heap.size, 0, none⟩ = some (.int .i64 ((uu : Int) + 1)) := by rw [World.cell?, htg]; rfl
  have t1 : W0.cell? ⟨w.heap.size, 1, none⟩ = some (.int .u64 T) := by rw [World.cell?, htg]; rfl
  have tL : w.heap.size < W0.heap.size := (Array.getElem?_eq_some_iff.1 htg).1
  have b0 : W0.cell? ⟨tb, 0, none⟩ = some (.slice (some ⟨rb, 0, none⟩) n n) := by rw [World.cell?, hTW.tbl]; rfl
  have b1 : W0.cell? ⟨tb, 1, none⟩ = some (.slice va rs.length cap) := by rw [World.cell?, hTW.tbl]; rfl
  have ltb : tb < W0.heap.size := (Array.getElem?_eq_some_iff.1 hTW.tbl).1
  have hkz : (k : Int) < (n : Int) := by omega
  have huz : (uu : Int) < (n : Int) := by omega
  have hkw : IntKind.i64.wrap ((k : Int) + 1 - 1) = (k : Int) := by rw [IntKind.wrap_i64]; omega
  have huw : IntKind.i64.wrap ((uu : Int) + 1 - 1) = (uu : Int) := by rw [IntKind.wrap_i64]; omega
  have hTw : IntKind.u64.wrap (T - 1) = T - 1 := by rw [IntKind.wrap_u64]; omega
  have hk0 : (0 : Int) ≤ (k : Int) := by omega
  have hu0 : (0 : Int) ≤ (uu : Int) := by omega
  have hkw' : IntKind.i64.wrap (k : Int) = (k : Int) := by rw [IntKind.wrap_i64]; omega
  have huw' : IntKind.i64.wrap (uu : Int) = (uu : Int) := by rw [IntKind.wrap_i64]; omega
  have HH := holds_any W0.drew S n rb R X rs (.slice (some ⟨rb, 0, none⟩) n n) (.slice va rs.length cap) ((k : Int) + 1) ((uu : Int) + 1) T h6 (by omega) (by omega) (by omega) (by omega) hTW.tab.drew (by omega)
  rw [show ((k : Int) + 1 - 1).toNat = k by omega, show ((uu : Int) + 1 - 1).toNat = uu by omega] at HH
  have HT : Hid (TB w S tb n (.slice (some ⟨rb, 0, none⟩) n n) (.slice va rs.length cap) rb R X rs) := hT
  have HTW : Hid (TB W0 S tb n (.slice (some ⟨rb, 0, none⟩) n n) (.slice va rs.length cap) rb R X rs) := hTW
  have HG : Hid (Good n rs) := hg
  have HTG : Hid (W0.heap[w.heap.size]? = some (.cells #[.int .i64 ((uu : Int) + 1), .int .u64 T] 31 (0, 0))) := htg
  clear hT hTW hg htg
  cases hB : holdsB k uu T X rs
  · rw [hB] at HH
    have HNH : Hid (¬ HP k uu T X rs) := fun h => by rw [(holdsB_iff k uu T X rs).2 h] at hB; simp at hB
    clear hB
    go_enter Yba.func17, Yba.ntmps17
    go_wp2_with fail
    go_region_held3 (fun w' => w'.cell? ⟨w.heap.size, 0, none⟩ = some (.int .i64 ((uu : Int) + 1)) ∧ w'.cell? ⟨w.heap.size, 1, none⟩ = some (.int .u64 T) ∧ w'.cell? ⟨tb, 0, none⟩ = some (.slice (some ⟨rb, 0, none⟩) n n) ∧ w'.cell? ⟨tb, 1, none⟩ = some (.slice va rs.length cap))
      (first
        | exact ⟨t0, t1, b0, b1⟩
        | exact ⟨cell_later hb' tL t0, cell_later hb' tL t1, cell_later hb' ltb b0, cell_later hb' ltb b1⟩
        | go_keep)
      ((go_at_call 9; refine HH.mono ?_; rintro e w1 ⟨rfl, hb'⟩))
    have hbW : Below W0.heap.size W0 w1 := ⟨hb'.os, hb'.tape, hb'.output, hb'.size, hb'.block⟩
    have hbb : Below w.heap.size w w1 := hB0.trans (hbW.mono hB0.size)
    have hT1w := HTW.out.later hbW
    have htg1 : w1.heap[w.heap.size]? = some (.cells #[.int .i64 ((uu : Int) + 1), .int .u64 T] 31 (0, 0)) := (hbW.block _ tL).trans HTG.out
    have s0 : w1.cell? ⟨w.heap.size, 0, none⟩ = some (.int .i64 ((uu : Int) + 1)) := by rw [World.cell?, htg1]; rfl
    have s1 : w1.cell? ⟨w.heap.size, 1, none⟩ = some (.int .u64 T) := by rw [World.cell?, htg1]; rfl
    have s2 : w1.cell? ⟨tb, 0, none⟩ = some (.slice (some ⟨rb, 0, none⟩) n n) := by rw [World.cell?, hT1w.tbl]; rfl
    have s3 : w1.cell? ⟨tb, 1, none⟩ = some (.slice va rs.length cap) := by rw [World.cell?, hT1w.tbl]; rfl
    have s4 : w1.cell? ⟨rb, k, none⟩ = some (.slice (some ⟨R k, 0, none⟩) n n) := hT1w.tab.top.cell hk
    have s5 : w1.cell? ⟨R k, uu, none⟩ = some (.int .u64 (X k uu)) := (hT1w.tab.row k hk).2.cell hu
    have l1 : w.heap.size < w1.heap.size := (Array.getElem?_eq_some_iff.1 htg1).1
    have l2 : tb < w1.heap.size := (Array.getElem?_eq_some_iff.1 hT1w.tbl).1
    have l3 : rb < w1.heap.size := hT1w.tab.top.lt
    have l4 : R k < w1.heap.size := (hT1w.tab.row k hk).2.lt
    have HT1 : Hid (TB w1 S tb n (.slice (some ⟨rb, 0, none⟩) n n) (.slice va rs.length cap) rb R X rs) := hT1w
    have HTG1 : Hid (w1.heap[w.heap.size]? = some (.cells #[.int .i64 ((uu : Int) + 1), .int .u64 T] 31 (0, 0))) := htg1
    have HK1 : Hid (Kept S w w1) := Kept.of_below hbb
    have HBB : Hid (Below w.heap.size w w1) := hbb
    clear hb' hbW hbb hT1w htg1 HH t0 t1 b0 b1 hB0 ltb tL HTW HTG
    by_cases hX : X k uu = T - 1
    · have hd : (X k uu == T - 1) = true := by simp [hX]
      have HX : Hid (X k uu = T - 1) := hX
      have HR := hasRuns_any w1.drew S n rb R X rs _ _ ((uu : Int) + 1) HT1.out.tab.drew (by omega)
      clear hX
      cases hA : rs.any (ofNode ((uu : Int) + 1))
      · rw [hA] at HR
        go_wp2_with fail
        go_region_held3 (fun w' => w'.cell? ⟨w.heap.size, 0, none⟩ = some (.int .i64 ((uu : Int) + 1)) ∧ w'.cell? ⟨w.heap.size, 1, none⟩ = some (.int .u64 T) ∧ w'.cell? ⟨tb, 0, none⟩ = some (.slice (some ⟨rb, 0, none⟩) n n) ∧ w'.cell? ⟨tb, 1, none⟩ = some (.slice va rs.length cap) ∧ w'.cell? ⟨R k, uu, none⟩ = some (.int .u64 (X k uu)))
          (first
            | exact ⟨s0, s1, s2, s3, s5⟩
            | exact ⟨cell_later hb' l1 s0, cell_later hb' l1 s1, cell_later hb' l2 s2, cell_later hb' l2 s3, cell_later hb' l4 s5⟩
            | go_keep)
          ((go_at_call 22; refine HR.mono ?_; rintro e w2 ⟨rfl, hb'⟩))
        have hbW : Below w1.heap.size w1 w2 := ⟨hb'.os, hb'.tape, hb'.output, hb'.size, hb'.block⟩
        have u0 := cell_later hbW l1 s0
        have u1 := cell_later hbW l1 s1
        have hT2 := HT1.out.later hbW
        have u5 : w2.cell? ⟨R k, uu, none⟩ = some (.int .u64 (X k uu)) := (hT2.tab.row k hk).2.cell hu
        have u6 := (hT2.tab.row k hk).2.frozen uu
        have HT2 : Hid (TB w2 S tb n (.slice (some ⟨rb, 0, none⟩) n n) (.slice va rs.length cap) rb R X rs) := hT2
        have HK2 : Hid (Kept S w w2) := HK1.out.trans (Kept.of_below (S := S) hbW) (fun _ _ h => h)
        clear hb' hbW hT2 s0 s1 s2 s3 s4 s5 HR
        go_wp2
        try simp only [Exit.inBlock, Exit.then]
        refine bodyPost_ret (results_none rfl _ _ _) rfl ?_
        refine ⟨rfl, _, _, rs, HK2.out.setCell (p := ⟨R k, uu, none⟩) (fun _ => (HT.out.tab.row k hk).1) _, (HT2.out.setRow hk uu T).wide, HG.out, by omega, fun a u t ha hu' => ?_⟩
        rw [hold_max T T (by have := HX.out; omega) a u t]
        constructor
        · rintro (h | ⟨rfl, rfl, h3⟩)
          · exact .inl h
          · by_cases e : t = T
            · exact .inr ⟨rfl, rfl, e⟩
            · refine .inl (.inl ?_)
              have := HX.out
              omega
        · rintro (h | ⟨h1, h2, h3⟩)
          · exact .inl h
          · exact .inr ⟨h1, h2, by omega⟩
      · rw [hA] at HR
        go_wp2_with fail
        go_region_held3 (fun w' => w'.cell? ⟨w.heap.size, 0, none⟩ = some (.int .i64 ((uu : Int) + 1)) ∧ w'.cell? ⟨w.heap.size, 1, none⟩ = some (.int .u64 T) ∧ w'.cell? ⟨tb, 0, none⟩ = some (.slice (some ⟨rb, 0, none⟩) n n) ∧ w'.cell? ⟨tb, 1, none⟩ = some (.slice va rs.length cap) ∧ w'.cell? ⟨R k, uu, none⟩ = some (.int .u64 (X k uu)))
          (first
            | exact ⟨s0, s1, s2, s3, s5⟩
            | exact ⟨cell_later hb' l1 s0, cell_later hb' l1 s1, cell_later hb' l2 s2, cell_later hb' l2 s3, cell_later hb' l4 s5⟩
            | go_keep)
          ((go_at_call 22; refine HR.mono ?_; rintro e w2 ⟨rfl, hb'⟩))
        have hbW : Below w1.heap.size w1 w2 := ⟨hb'.os, hb'.tape, hb'.output, hb'.size, hb'.block⟩
        have HTx : Hid (TB w2 S tb n (.slice (some ⟨rb, 0, none⟩) n n) (.slice va rs.length cap) rb R X rs) := HT1.out.later hbW
        have HKx : Hid (Kept S w w2) := HK1.out.trans (Kept.of_below (S := S) hbW) (fun _ _ h => h)
        have HTGx : Hid (w2.heap[w.heap.size]? = some (.cells #[.int .i64 ((uu : Int) + 1), .int .u64 T] 31 (0, 0))) := (hbW.block _ l1).trans HTG1.out
        clear hb' hbW s0 s1 s2 s3 s4 s5 HR
        have HRun := run_any w2.drew S tb n rb R X rs _ _ ((uu : Int) + 1) (T - 1) h6 (HTx.out.same rfl) (by omega) HG.out.1
        have p0 : w2.cell? ⟨w.heap.size, 0, none⟩ = some (.int .i64 ((uu : Int) + 1)) := by rw [World.cell?, HTGx.out]; rfl
        have p1 : w2.cell? ⟨w.heap.size, 1, none⟩ = some (.int .u64 T) := by rw [World.cell?, HTGx.out]; rfl
        have pL : w.heap.size < w2.heap.size := (Array.getElem?_eq_some_iff.1 HTGx.out).1
        have pS : ¬ S w.heap.size := fun h => by have := hSb _ h; omega
        go_upto_region 5 with fail
        go_cut [47] (fun _ wx => ∃ w3 g cap3 rs3 i3 r3, wx = w3.setCell ⟨Rn.blk r3, k, none⟩ (.int .u64 T) ∧ Kept S w2.drew w3 ∧ TB w3 (Up S w2.drew) tb n (.slice (some ⟨rb, 0, none⟩) n n) (.slice (some ⟨g, 0, none⟩) (List.length rs3) cap3) rb R X rs3 ∧ RunTo n ((uu : Int) + 1) (T - 1) rs rs3 i3 r3)
        case first =>
          go_region_with ((go_at_call 19; refine HRun.mono ?_; rintro e w3 ⟨g, cap3, rs3, i3, r3, rfl, hK3, hT3, hR3⟩; have k0 := kept_cell hK3 pS pL p0; have k1 := kept_cell hK3 pS pL p1; have q2 := run_cell hT3 hR3.2.1; have q3 := (held_cell hT3 hR3.2.1 hk).1; have q4 := (held_cell hT3 hR3.2.1 hk).2))
          all_goals
            go_wp2_with fail
            go_meet
            exact ⟨w3, g, cap3, rs3, i3, r3, rfl, hK3, hT3, hR3⟩
        case rest =>
          obtain ⟨w3, g, cap3, rs3, i3, r3, rfl, hK3, hT3, hR3⟩ := hcut
          have hM : r3.held k ≤ T := by
            have h1 : ¬ HP k uu T X rs3 := fun h => HNH.out ((run_to_hold hR3 k uu T hk).1 h)
            by_cases h2 : r3.held k ≤ T
            · exact h2
            · exact absurd (.inr ⟨i3, r3, hR3.2.1, hR3.2.2.1, by rw [hR3.2.2.2.1]; omega, by omega⟩) h1
          have HN := put_norm w w2.drew w3 S tb n rb R X rs rs3 _ _ k i3 ((uu : Int) + 1) (T - 1) T r3 h6 hk (by omega) (by omega) HKx.out.drew hK3 hT3 hR3 HG.out hrl hM
          clear hK3 hT3 hR3 hM
          go_wp2_with fail
          refine HN.mono ?_
          rintro e w4 ⟨rfl, v1', X', rs', hL1, hL2, hL3, hL4, hL5⟩
          go_wp2
          go_end0
          refine ⟨rfl, v1', X', rs', hL1, hL2, hL3, hL4, fun a u t ha hu' => (hL5 a u t ha hu').trans ?_⟩
          constructor
          · rintro (h | ⟨h1, h2, h3, h4⟩)
            · exact .inl h
            · exact .inr ⟨h1, by omega, by omega⟩
          · rintro (h | ⟨h1, h2, h3⟩)
            · exact .inl h
            · exact .inr ⟨h1, by omega, by omega, by omega⟩
    · have hd : (X k uu == T - 1) = false := by simp [hX]
      go_wp2_with fail
      go_quiet (fail)
      obtain ⟨W2, hW2⟩ : ∃ W2, w1.drewN nq = W2 := ⟨_, rfl⟩
      have HTx : Hid (TB W2 S tb n (.slice (some ⟨rb, 0, none⟩) n n) (.slice va rs.length cap) rb R X rs) := by rw [← hW2]; exact HT1.out.same rfl
      have HKx : Hid (Kept S w W2) := by rw [← hW2]; exact HK1.out.same rfl rfl rfl rfl
      have HTGx : Hid (W2.heap[w.heap.size]? = some (.cells #[.int .i64 ((uu : Int) + 1), .int .u64 T] 31 (0, 0))) := by rw [← hW2]; exact HTG1.out
      rw [hW2]
      clear s0 s1 s2 s3 s4 s5 hW2
      have HRun := run_any W2.drew S tb n rb R X rs _ _ ((uu : Int) + 1) (T - 1) h6 (HTx.out.same rfl) (by omega) HG.out.1
      have p0 : W2.cell? ⟨w.heap.size, 0, none⟩ = some (.int .i64 ((uu : Int) + 1)) := by rw [World.cell?, HTGx.out]; rfl
      have p1 : W2.cell? ⟨w.heap.size, 1, none⟩ = some (.int .u64 T) := by rw [World.cell?, HTGx.out]; rfl
      have pL : w.heap.size < W2.heap.size := (Array.getElem?_eq_some_iff.1 HTGx.out).1
      have pS : ¬ S w.heap.size := fun h => by have := hSb _ h; omega
      go_upto_region 5 with fail
      go_cut [47] (fun _ wx => ∃ w3 g cap3 rs3 i3 r3, wx = w3.setCell ⟨Rn.blk r3, k, none⟩ (.int .u64 T) ∧ Kept S W2.drew w3 ∧ TB w3 (Up S W2.drew) tb n (.slice (some ⟨rb, 0, none⟩) n n) (.slice (some ⟨g, 0, none⟩) (List.length rs3) cap3) rb R X rs3 ∧ RunTo n ((uu : Int) + 1) (T - 1) rs rs3 i3 r3)
      case first =>
        go_region_with ((go_at_call 19; refine HRun.mono ?_; rintro e w3 ⟨g, cap3, rs3, i3, r3, rfl, hK3, hT3, hR3⟩; have k0 := kept_cell hK3 pS pL p0; have k1 := kept_cell hK3 pS pL p1; have q2 := run_cell hT3 hR3.2.1; have q3 := (held_cell hT3 hR3.2.1 hk).1; have q4 := (held_cell hT3 hR3.2.1 hk).2))
        all_goals
          go_wp2_with fail
          go_meet
          exact ⟨w3, g, cap3, rs3, i3, r3, rfl, hK3, hT3, hR3⟩
      case rest =>
        obtain ⟨w3, g, cap3, rs3, i3, r3, rfl, hK3, hT3, hR3⟩ := hcut
        have hM : r3.held k ≤ T := by
          have h1 : ¬ HP k uu T X rs3 := fun h => HNH.out ((run_to_hold hR3 k uu T hk).1 h)
          by_cases h2 : r3.held k ≤ T
          · exact h2
          · exact absurd (.inr ⟨i3, r3, hR3.2.1, hR3.2.2.1, by rw [hR3.2.2.2.1]; omega, by omega⟩) h1
        have HN := put_norm w W2.drew w3 S tb n rb R X rs rs3 _ _ k i3 ((uu : Int) + 1) (T - 1) T r3 h6 hk (by omega) (by omega) HKx.out.drew hK3 hT3 hR3 HG.out hrl hM
        clear hK3 hT3 hR3 hM
        go_wp2_with fail
        refine HN.mono ?_
        rintro e w4 ⟨rfl, v1', X', rs', hL1, hL2, hL3, hL4, hL5⟩
        go_wp2
        go_end0
        refine ⟨rfl, v1', X', rs', hL1, hL2, hL3, hL4, fun a u t ha hu' => (hL5 a u t ha hu').trans ?_⟩
        constructor
        · rintro (h | ⟨h1, h2, h3, h4⟩)
          · exact .inl h
          · exact .inr ⟨h1, by omega, by omega⟩
        · rintro (h | ⟨h1, h2, h3⟩)
          · exact .inl h
          · exact .inr ⟨h1, by omega, by omega, by omega⟩
  · rw [hB] at HH
    have HNH : Hid (HP k uu T X rs) := (holdsB_iff k uu T X rs).1 hB
    clear hB
    go_enter Yba.func17, Yba.ntmps17
    go_wp2_with fail
    go_region_held3 (fun w' => w'.cell? ⟨w.heap.size, 0, none⟩ = some (.int .i64 ((uu : Int) + 1)) ∧ w'.cell? ⟨w.heap.size, 1, none⟩ = some (.int .u64 T) ∧ w'.cell? ⟨tb, 0, none⟩ = some (.slice (some ⟨rb, 0, none⟩) n n) ∧ w'.cell? ⟨tb, 1, none⟩ = some (.slice va rs.length cap))
      (first
        | exact ⟨t0, t1, b0, b1⟩
        | exact ⟨cell_later hb' tL t0, cell_later hb' tL t1, cell_later hb' ltb b0, cell_later hb' ltb b1⟩
        | go_keep)
      ((go_at_call 9; refine HH.mono ?_; rintro e w1 ⟨rfl, hb'⟩))
    go_wp2
    try simp only [Exit.inBlock, Exit.then]
    refine bodyPost_ret (results_none rfl _ _ _) rfl ?_
    have hbb : Below w.heap.size w w1 := hB0.drew.trans (hb'.mono hB0.size)
    refine ⟨rfl, _, X, rs, Kept.of_below hbb, (HT.out.later hbb).wide, HG.out, by omega, fun a u t ha hu' => ⟨.inl, ?_⟩⟩
    rintro (h | ⟨rfl, rfl, rfl⟩)
    · exact h
    · exact HNH.out

end Go.Proofs.Ybulkbsio
