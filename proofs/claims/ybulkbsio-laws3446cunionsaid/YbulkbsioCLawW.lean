import Derived.Test.YbulkbsioCLaw
namespace Go.Proofs.Ybulkbsio
open Go.RowKit Go.Deep

theorem fin_mk {w W0 w1 W1 w2 W2 w3 : World} {nn kk jj : Nat} {v1 u1 : Value} {rb rbo : Nat} {R : Nat → Nat} {X Xo : Nat → Nat → Int} {rs rso : List Rn} {M1 M2 : Nat → Bool} (hjj : jj < nn)
    (hW0 : W0 = (w.alloc (.cells z41 41)).alloc (.cells z41 41)) (hK1 : Kept (fun k => k = w.heap.size) W0 w1) (hW1 : W1 = w1.alloc (.cells #[.slice (some ⟨rb, 0, none⟩) nn nn, v1] 27)) (hK2 : Kept (fun k => k = w.heap.size + 1) W1 w2) (hW2 : W2 = w2.alloc (.cells #[.slice (some ⟨rbo, 0, none⟩) nn nn, u1] 27))
    (hl1 : rs.length ≤ 256) (hl2 : rso.length ≤ 256) (hm1 : w1.rowIs w.heap.size 41 224 (fun q => .bool (M1 q))) (hA1 : Agree nn M1 X rs) (hm2 : w2.rowIs (w.heap.size + 1) 41 224 (fun q => .bool (M2 q))) (hA2 : Agree nn M2 Xo rso)
    (hL : Left W2 w3 (fun k => (W0.heap.size < k ∧ k < w1.heap.size) ∨ k = w1.heap.size) w1.heap.size nn (.slice (some ⟨rb, 0, none⟩) nn nn) rb R X rs rso.length (fun a u t => a = kk ∧ HP jj u t Xo rso)) :
    ∃ v1' X' rs', Fin3 w w3 nn kk jj w1.heap.size (.slice (some ⟨rb, 0, none⟩) nn nn) v1' rb R X' rs' M1 M2 := by
  obtain ⟨v1', X', rs', hK, hT, hg, hl, hh⟩ := hL
  have e0 : W0.heap.size = w.heap.size + 2 := by rw [hW0]; simp
  have e1 : W1.heap.size = w1.heap.size + 1 := by rw [hW1]; simp
  have e2 : W2.heap.size = w2.heap.size + 1 := by rw [hW2]; simp
  have s1 := hK1.size
  have s2 := hK2.size
  have s3 := hK.size
  have b0 : ∀ k, k < w.heap.size → W0.heap[k]? = w.heap[k]? := fun k hk => by rw [hW0, blk_alloc_lt _ _ _ (by simp; omega), blk_alloc_lt _ _ _ hk]
  have b1 : ∀ k, k < w1.heap.size → W1.heap[k]? = w1.heap[k]? := fun k hk => by rw [hW1, blk_alloc_lt _ _ _ hk]
  have b2 : ∀ k, k < w2.heap.size → W2.heap[k]? = w2.heap[k]? := fun k hk => by rw [hW2, blk_alloc_lt _ _ _ hk]
  have b3 : ∀ k, k ≤ w.heap.size + 1 → w3.heap[k]? = W2.heap[k]? := fun k hk => hK.block k (by omega) (fun h => by omega)
  refine ⟨v1', X', rs', ⟨⟨?_, ?_, ?_, by omega, fun k hk => ?_⟩, hT.all, by omega, ?_, ?_, fun a u t ha hu h1 h13 => ?_⟩⟩
  · rw [hK.os, hW2]; show w2.os = _; rw [hK2.os, hW1]; show w1.os = _; rw [hK1.os, hW0]; rfl
  · rw [hK.tape, hW2]; show w2.tape = _; rw [hK2.tape, hW1]; show w1.tape = _; rw [hK1.tape, hW0]; rfl
  · rw [hK.output, hW2]; show w2.output = _; rw [hK2.output, hW1]; show w1.output = _; rw [hK1.output, hW0]; rfl
  · rw [b3 k (by omega), b2 k (by omega), hK2.block k (by omega) (by omega), b1 k (by omega), hK1.block k (by omega) (by omega), b0 k hk]
  · refine hm1.of_block ?_
    rw [b3 _ (by omega), b2 _ (by omega), hK2.block _ (by omega) (by omega), b1 _ (by omega)]
  · refine hm2.of_block ?_
    rw [b3 _ (by omega), b2 _ (by omega)]
  · have k1 := hA1 a u t ha hu h1 h13
    have k2 := hA2 jj u t hjj hu h1 h13
    have k3 := hh a u t ha hu
    have k4 := holdsB_iff a u t X' rs'
    rw [Bool.eq_iff_iff, k4, k3, Bool.or_eq_true, Bool.and_eq_true, decide_eq_true_eq, k1, k2]

set_option maxHeartbeats 8000000 in
set_option maxRecDepth 100000 in
theorem law_walk (w : World) (n k j : Int) (hn : 0 ≤ n ∧ n ≤ 255) (hk : 0 ≤ k ∧ k ≤ 255) (hj : 0 ≤ j ∧ j ≤ 255) (ta oa : Option Addr) (tl tc ol oc : Nat) (htl : tl ≤ 256) (hol : ol ≤ 256)
    (tab tao oab oao : Nat) (A0 A1 A2 A3 B0 B1 B2 B3 : Nat → Int) (hA : COps w ta tl tab tao A0 A1 A2 A3) (hB : COps w oa ol oab oao B0 B1 B2 B3) :
    Calls Yba.prog 5 #[.int .u8 n, .int .u8 k, .int .u8 j, .slice ta tl tc, .slice oa ol oc] w fun e w' => e = .returned (.bool true) ∧ Below w.heap.size w w' := by
  obtain ⟨nn, hnn⟩ : ∃ nn : Nat, 1 + n % 4 = (nn : Int) := ⟨(1 + n % 4).toNat, by omega⟩
  have h1 : 1 ≤ nn := by omega
  have h4 : nn ≤ 4 := by omega
  obtain ⟨kk, hkk1, hkn⟩ := rem_nat (z := k) h1
  obtain ⟨jj, hjj1, hjn⟩ := rem_nat (z := j) h1
  obtain ⟨-, -, hk4, hkz⟩ := small_facts hkn h4
  obtain ⟨-, -, hj4, hjz⟩ := small_facts hjn h4
  have hn0 : ¬ (nn : Int) = 0 := by omega
  have hd1 : decide ((256 : Int) < (tl : Int)) = false := by simp; omega
  have hd2 : decide ((256 : Int) < (ol : Int)) = false := by simp; omega
  have r41 := run41
  obtain ⟨W0, hW0⟩ : ∃ W0, (w.alloc (.cells z41 41)).alloc (.cells z41 41) = W0 := ⟨_, rfl⟩
  have hB0 : Below w.heap.size w W0 := by rw [← hW0]; exact ((Below.refl _ _).alloc (Nat.le_refl _) _).alloc (by simp) _
  have hs0 : W0.heap.size = w.heap.size + 2 := by rw [← hW0]; simp
  have hr0 : W0.rowIs w.heap.size 41 224 (fun _ => .bool false) := by rw [← hW0]; exact (z41_row w).of_block (blk_alloc_lt _ _ _ (by simp))
  have hr1 : W0.rowIs (w.heap.size + 1) 41 224 (fun _ => .bool false) := by
    rw [← hW0]
    have := z41_row (w.alloc (.cells z41 41))
    rw [nblk_alloc] at this
    exact this
  have HB1 := cbuild_any W0 nn h1 h4 ta tl tc tab tao w.heap.size A0 A1 A2 A3 (hA.kept hB0) htl hr0 (fun h e => by have := hA.lt h; omega)
  have HA : Hid (COps w ta tl tab tao A0 A1 A2 A3) := hA
  have HB : Hid (COps w oa ol oab oao B0 B1 B2 B3) := hB
  have HR1 : Hid (W0.rowIs (w.heap.size + 1) 41 224 (fun _ => .bool false)) := hr1
  have HBe : Hid (Below w.heap.size w W0) := hB0
  clear hA hB hr0 hr1 hB0
  go_enter Yba.func5, Yba.ntmps5
  go_wp2_with fail
  refine HB1.mono ?_
  rintro e w1 ⟨v1, rb, R, X, rs, M1, rfl, hK1, hT1, hg1, hl1, hm1, hA1⟩
  obtain ⟨va1, cap1, rfl, -⟩ := hT1.slice
  obtain ⟨W1, hW1⟩ : ∃ W1, w1.alloc (.cells #[.slice (some ⟨rb, 0, none⟩) nn nn, .slice va1 rs.length cap1] 27) = W1 := ⟨_, rfl⟩
  have s1 := hK1.size
  have hb1 : Below w.heap.size w w1 := HBe.out.trans (hK1.below (by omega) (fun k hk e => by omega))
  have hB1 : Below w.heap.size w W1 := by rw [← hW1]; exact hb1.alloc hb1.size _
  have hb1' : Below w1.heap.size w1 W1 := by rw [← hW1]; exact (Below.refl _ _).alloc (Nat.le_refl _) _
  have hs1 : W1.heap.size = w1.heap.size + 1 := by rw [← hW1]; simp
  have hrW1 : W1.rowIs (w.heap.size + 1) 41 224 (fun _ => .bool false) := HR1.out.of_block ((hb1'.block _ (by omega)).trans (hK1.block _ (by omega) (by omega)))
  have HB2 := cbuild_any W1 nn h1 h4 oa ol oc oab oao (w.heap.size + 1) B0 B1 B2 B3 (HB.out.kept hB1) hol hrW1 (fun h e => by have := HB.out.lt h; omega)
  have HS1 : Hid (Kept (fun k => k = w.heap.size) W0 w1 ∧ Tab w1 (fun k => W0.heap.size < k ∧ k < w1.heap.size) nn (.slice (some ⟨rb, 0, none⟩) nn nn) (.slice va1 rs.length cap1) rb R X rs ∧ Good nn rs ∧ rs.length ≤ tl ∧ w1.rowIs w.heap.size 41 224 (fun q => .bool (M1 q)) ∧ Agree nn M1 X rs) := ⟨hK1, hT1, hg1, hl1, hm1, hA1⟩
  have HW1 : Hid (W1.heap[w1.heap.size]? = some (.cells #[.slice (some ⟨rb, 0, none⟩) nn nn, .slice va1 rs.length cap1] 27 (0, 0)) ∧ Below w1.heap.size w1 W1) := ⟨by rw [← hW1]; exact blk_alloc_new _ _, hb1'⟩
  clear HB1 hK1 hT1 hg1 hl1 hm1 hA1 hb1 hB1 hb1' hrW1
  go_wp2_with fail
  refine HB2.mono ?_
  rintro e w2 ⟨u1, rbo, Ro, Xo, rso, M2, rfl, hK2, hT2, hg2, hl2, hm2, hA2⟩
  obtain ⟨va2, cap2, rfl, -⟩ := hT2.slice
  obtain ⟨W2, hW2⟩ : ∃ W2, w2.alloc (.cells #[.slice (some ⟨rbo, 0, none⟩) nn nn, .slice va2 rso.length cap2] 27) = W2 := ⟨_, rfl⟩
  have s2 := hK2.size
  have hb2 : Below w2.heap.size w2 W2 := by rw [← hW2]; exact (Below.refl _ _).alloc (Nat.le_refl _) _
  have hs2 : W2.heap.size = w2.heap.size + 1 := by rw [← hW2]; simp
  have hTW : TB W2 (fun k => (W0.heap.size < k ∧ k < w1.heap.size) ∨ k = w1.heap.size) w1.heap.size nn (.slice (some ⟨rb, 0, none⟩) nn nn) (.slice va1 rs.length cap1) rb R X rs := by
    refine ⟨?_, .inr rfl, ?_⟩
    · rw [hb2.block _ (by omega), hK2.block _ (by omega) (by omega)]; exact HW1.out.1
    · refine ((HS1.out.2.1.kept (w' := W2) (fun k hk hlt => ?_))).mono (fun k hk _ => .inl hk)
      rw [hb2.block _ (by omega), hK2.block _ (by omega) (fun e => by have := hk.1; omega), HW1.out.2.block _ hlt]
  have HRa := raise_any W2 (fun k => (W0.heap.size < k ∧ k < w1.heap.size) ∨ k = w1.heap.size) (fun k => W1.heap.size < k ∧ k < w2.heap.size) w1.heap.size nn rb rbo R Ro X Xo rs rso _ _ (.slice (some ⟨rbo, 0, none⟩) nn nn) (.slice va2 rso.length cap2) kk jj (by omega) hkn hjn hTW HS1.out.2.2.1 (by have := HS1.out.2.2.2.1; omega) (fun q hq => by omega) (hT2.kept (fun q _ hq => hb2.block q hq)) hg2 (fun q hq hx => by omega)
  rw [Int.add_comm (kk : Int) 1, Int.add_comm (jj : Int) 1] at HRa
  have HF : Hid (∀ w3, Left W2 w3 (fun k => (W0.heap.size < k ∧ k < w1.heap.size) ∨ k = w1.heap.size) w1.heap.size nn (.slice (some ⟨rb, 0, none⟩) nn nn) rb R X rs rso.length (fun a u t => a = kk ∧ HP jj u t Xo rso) → ∃ v1' X' rs', Fin3 w w3 nn kk jj w1.heap.size (.slice (some ⟨rb, 0, none⟩) nn nn) v1' rb R X' rs' M1 M2) := fun w3 hL =>
    fin_mk hjn hW0.symm HS1.out.1 hW1.symm hK2 hW2.symm (by have := HS1.out.2.2.2.1; omega) (by omega) HS1.out.2.2.2.2.1 HS1.out.2.2.2.2.2 hm2 hA2 hL
  have q0 : W2.cell? ⟨w2.heap.size, 0, none⟩ = some (.slice (some ⟨rbo, 0, none⟩) nn nn) := by rw [← hW2, World.cell?, blk_alloc_new]; rfl
  have q1 : W2.cell? ⟨w2.heap.size, 1, none⟩ = some (.slice va2 rso.length cap2) := by rw [← hW2, World.cell?, blk_alloc_new]; rfl
  clear HB2 hK2 hT2 hg2 hl2 hm2 hA2 hTW hb2 HS1 HW1 HB HR1 HBe
  go_wp2_with fail
  refine HRa.mono ?_
  rintro e w3 ⟨rfl, hL⟩
  obtain ⟨v3, X3, rs3, hF⟩ := HF.out w3 hL
  have HF3 : Hid (Fin3 w w3 nn kk jj w1.heap.size (.slice (some ⟨rb, 0, none⟩) nn nn) v3 rb R X3 rs3 M1 M2) := hF
  obtain ⟨va3, cap3, rfl, -⟩ := hF.tbl.tab.slice
  clear HRa hL HF q0 q1 hF hW0 hW1 hW2 hs0 hs1 hs2 s1 s2 HA r41 hkk1 hjj1 hnn hd1 hd2 hn hk hj htl hol
  generalize w1.heap.size = tb at HF3
  go_wp2_with fail
  go_loopg [18] nn (fun g i wr => ∃ a : Nat, a ≤ nn ∧ g = nn - a ∧ i = .int .i64 ((a : Int) + 1) ∧ Fin3 w wr nn kk jj tb (.slice (some ⟨rb, 0, none⟩) nn nn) (.slice va3 rs3.length cap3) rb R X3 rs3 M1 M2)
  case atStart => exact ⟨0, Nat.zero_le _, rfl, rfl, HF3.out⟩
  case round =>
    clear HF3
    obtain ⟨a, han, rfl, rfl, hF⟩ := hrel
    have HFa : Hid (Fin3 w wr nn kk jj tb (.slice (some ⟨rb, 0, none⟩) nn nn) (.slice va3 rs3.length cap3) rb R X3 rs3 M1 M2) := hF
    clear hF
    by_cases ha : a < nn
    · have haz : (a : Int) + 1 ≤ (nn : Int) := by omega
      have had : decide ((a : Int) + 1 ≤ (nn : Int)) = true := by simp; omega
      have ha4 : (a : Int) < 4 := by omega
      have haw : IntKind.i64.wrap ((a : Int) + 1 - 1) = (a : Int) := by rw [IntKind.wrap_i64]; omega
      go_wp2_with fail
      go_loopg [19] nn (fun g i wr => ∃ u : Nat, u ≤ nn ∧ g = nn - u ∧ i = .int .i64 ((u : Int) + 1) ∧ Fin3 w wr nn kk jj tb (.slice (some ⟨rb, 0, none⟩) nn nn) (.slice va3 rs3.length cap3) rb R X3 rs3 M1 M2)
      case atStart => exact ⟨0, Nat.zero_le _, rfl, rfl, HFa.out⟩
      case round =>
        clear HFa
        obtain ⟨u, hun, rfl, rfl, hF⟩ := hrel
        have HFu : Hid (Fin3 w wr nn kk jj tb (.slice (some ⟨rb, 0, none⟩) nn nn) (.slice va3 rs3.length cap3) rb R X3 rs3 M1 M2) := hF
        clear hF
        by_cases hu : u < nn
        · have huz : (u : Int) + 1 ≤ (nn : Int) := by omega
          have hud : decide ((u : Int) + 1 ≤ (nn : Int)) = true := by simp; omega
          have hu4 : (u : Int) < 4 := by omega
          have huw : IntKind.i64.wrap ((u : Int) + 1 - 1) = (u : Int) := by rw [IntKind.wrap_i64]; omega
          go_wp2_with fail
          go_loopg [20] 13 (fun g i wr => ∃ v : Nat, 1 ≤ v ∧ v ≤ 14 ∧ g = 14 - v ∧ i = .int .i64 v ∧ Fin3 w wr nn kk jj tb (.slice (some ⟨rb, 0, none⟩) nn nn) (.slice va3 rs3.length cap3) rb R X3 rs3 M1 M2)
          case atStart => exact ⟨1, by omega, by omega, rfl, rfl, HFu.out⟩
          case round =>
            clear HFu
            obtain ⟨v, hv1, hv14, rfl, rfl, hF⟩ := hrel
            by_cases hv : v < 14
            · have hvz : (v : Int) < 14 := by omega
              have hvd : decide ((v : Int) < 14) = true := by simp; omega
              have hvw : IntKind.u64.wrap (v : Int) = (v : Int) := by rw [IntKind.wrap_u64]; omega
              have m1 := hF.mt.cell (idx_lt h4 ha hu (show v ≤ 13 by omega))
              have m2 := hF.mo.cell (idx_lt h4 hjn hu (show v ≤ 13 by omega))
              have c0 : wr.cell? ⟨tb, 0, none⟩ = some (.slice (some ⟨rb, 0, none⟩) nn nn) := by rw [World.cell?, hF.tbl.tbl]; rfl
              have c1 : wr.cell? ⟨tb, 1, none⟩ = some (.slice va3 rs3.length cap3) := by rw [World.cell?, hF.tbl.tbl]; rfl
              have HC := cholds_any wr (fun _ => True) nn rb R X3 rs3 _ _ a u v (by omega) ha hu hF.tbl.tab hF.len
              have hans := hF.ans a u v ha hu hv1 (by omega)
              have HF : Hid (Fin3 w wr nn kk jj tb (.slice (some ⟨rb, 0, none⟩) nn nn) (.slice va3 rs3.length cap3) rb R X3 rs3 M1 M2) := hF
              clear hF
              rw [hans] at HC
              clear hans
              generalize M1 (a * 56 + u * 14 + v) = b1 at m1 HC
              generalize M2 (jj * 56 + u * 14 + v) = b2 at m2 HC
              by_cases hak : a = kk
              · have hkd : ((a : Int) + 1 == 1 + (kk : Int)) = true := by simp; omega
                rw [show decide (a = kk) = true by simp [hak]] at HC
                clear hak
                cases b2
                · rw [Bool.and_false, Bool.or_false] at HC
                  go_wp2_with fail
                  refine HC.mono ?_
                  rintro e w4 ⟨rfl, hb4⟩
                  cases b1
                  all_goals
                    go_wp2_with fail
                    go_roundg (14 - (v + 1))
                    case measure => go_light; omega
                    case rel => go_light; exact ⟨v + 1, by omega, by omega, rfl, by go_num, HF.out.later hb4⟩
                · rw [Bool.and_true, Bool.or_true] at HC
                  go_wp2_with fail
                  refine HC.mono ?_
                  rintro e w4 ⟨rfl, hb4⟩
                  cases b1
                  all_goals
                    go_wp2_with fail
                    go_roundg (14 - (v + 1))
                    case measure => go_light; omega
                    case rel => go_light; exact ⟨v + 1, by omega, by omega, rfl, by go_num, HF.out.later hb4⟩
              · have hkd : ((a : Int) + 1 == 1 + (kk : Int)) = false := by simp; omega
                rw [show decide (a = kk) = false by simp [hak], Bool.false_and, Bool.or_false] at HC
                clear hak
                go_wp2_with fail
                refine HC.mono ?_
                rintro e w4 ⟨rfl, hb4⟩
                cases b1
                all_goals
                  go_wp2_with fail
                  go_roundg (14 - (v + 1))
                  case measure => go_light; omega
                  case rel => go_light; exact ⟨v + 1, by omega, by omega, rfl, by go_num, HF.out.later hb4⟩
            · have hvd : decide ((v : Int) < 14) = false := by simp; omega
              have HF : Hid (Fin3 w wr nn kk jj tb (.slice (some ⟨rb, 0, none⟩) nn nn) (.slice va3 rs3.length cap3) rb R X3 rs3 M1 M2) := hF
              clear hF
              go_wp2_with fail
              go_roundg (nn - (u + 1))
              case measure => go_light; omega
              case rel => go_light; exact ⟨u + 1, by omega, rfl, by go_num, HF.out⟩
        · have hud : decide ((u : Int) + 1 ≤ (nn : Int)) = false := by simp; omega
          go_wp2_with fail
          go_roundg (nn - (a + 1))
          case measure => go_light; omega
          case rel => go_light; exact ⟨a + 1, by omega, rfl, by go_num, HFu.out⟩
    · have had : decide ((a : Int) + 1 ≤ (nn : Int)) = false := by simp; omega
      go_wp2
      go_ret
      exact ⟨rfl, HFa.out.bel⟩

end Go.Proofs.Ybulkbsio
