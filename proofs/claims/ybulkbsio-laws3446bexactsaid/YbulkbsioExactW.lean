import Derived.Test.YbulkbsioDuo
namespace Go.Proofs.Ybulkbsio
open Go.RowKit Go.Deep

set_option maxHeartbeats 2000000 in
set_option maxRecDepth 100000 in
theorem exact_walk (w : World) (n : Int) (hn0 : 0 ≤ n) (hn1 : n ≤ 255) (nn : Nat) (hnn : n % 6 + 1 = nn) (ra : Option Addr) (rl rc : Nat) (gb go : Nat) (A : Nat → Option Addr) (L C RB RO : Nat → Nat) (Z : Nat → Nat → Int) (ua : Option Addr) (ul uc : Nat) (ub uo : Nat) (nd fr : Nat → Int) (A' : Nat → Option Addr) (L' C' RB' RO' : Nat → Nat) (Z' : Nat → Nat → Int)
    (k node time : Int) (k0 u0 : Nat) (hk : 0 ≤ k ∧ k ≤ 255) (hu : 0 ≤ node ∧ node ≤ 255) (hk0 : k % nn = k0) (hu0 : node % nn = u0) (hkn : k0 < nn) (hun : u0 < nn)
    (hR : RowsIn w ra rl gb go A L C RB RO Z) (hU : RunsIn w ua ul ub uo nd fr A' L' C' RB' RO' Z') (hul : ul ≤ 1024) :
    Calls Yba.prog 3 #[.int .u8 n, .slice ra rl rc, .slice ua ul uc, .int .u8 k, .int .u8 node, .int .u64 time] w fun e w' => e = .returned (.bool true) ∧ Below w.heap.size w w' := by
  have h1 : 1 ≤ nn := by omega
  have h6 : nn ≤ 6 := by omega
  go_enter Yba.func3, Yba.ntmps3
  go_wp2_with fail
  refine (build_any w n hn0 hn1 nn hnn ra rl rc gb go A L C RB RO Z ua ul uc ub uo nd fr A' L' C' RB' RO' Z' hR hU hul).mono ?_
  rintro e w1 ⟨v1, Bk1, rfl, hb1, T1⟩
  obtain ⟨va1, cap1, rfl, hc1, hm1, -⟩ := T1.slice
  rw [bRuns_len] at T1 hc1 ⊢
  go_wp2_with fail
  refine (build_any _ n hn0 hn1 nn hnn ra rl rc gb go A L C RB RO Z ua ul uc ub uo nd fr A' L' C' RB' RO' Z' (hR.below (hb1.alloc hb1.size _)) (hU.below (hb1.alloc hb1.size _)) hul).mono ?_
  rintro e w2 ⟨v2, Bk2, rfl, hb2, T2⟩
  obtain ⟨va2, cap2, rfl, hc2, hm2, -⟩ := T2.slice
  rw [bRuns_len] at T2 hc2 ⊢
  go_wp2_with fail
  refine (lower_any _ _ nn w1.heap.size (w.heap.size + 2) (fun i => w.heap.size + 3 + i) (bCell rl L Z) (bRuns nn nd fr L' Z' Bk1 ul) _ _ (k0 + 1) (u0 + 1) time h6 (by omega) (by omega) (by omega) (by omega) (first_kept T1 hb2) (first_var hb2) (by rw [bRuns_len]; omega)).mono ?_
  rintro e W ⟨rfl, hk3, ht3, T3⟩
  rw [show ((k0 : Int) + 1 - 1).toNat = k0 from by omega] at T3
  simp only [nblk_alloc] at T2
  have hD := duo_mk hb1 hb2 T2 hk3 ht3 T3
  clear hk3 ht3 T3 T2 T1
  have q1 : W.cell? ⟨w1.heap.size, 0, none⟩ = some (.slice (some ⟨w.heap.size + 2, 0, none⟩) nn nn) := by simp [World.cell?, hD.t1]
  have q2 : W.cell? ⟨w1.heap.size, 1, none⟩ = some (.slice va1 ul cap1) := by simp [World.cell?, hD.t1]
  have q3 : W.cell? ⟨w2.heap.size, 0, none⟩ = some (.slice (some ⟨w1.heap.size + 1 + 2, 0, none⟩) nn nn) := by simp [World.cell?, hD.t2]
  have q4 : W.cell? ⟨w2.heap.size, 1, none⟩ = some (.slice va2 ul cap2) := by simp [World.cell?, hD.t2]
  go_wp2
  go_loopg [18] nn (fun g i wx => wx = W ∧ ∃ m : Nat, m ≤ nn ∧ g = nn - m ∧ i = .int .i64 m)
  case atStart => exact ⟨rfl, 0, Nat.zero_le _, rfl, rfl⟩
  case round =>
    obtain ⟨rfl, i, hi, rfl, rfl⟩ := hrel
    by_cases hin : i < nn
    · have hinz : (i : Int) < (nn : Int) := by omega
      have p1 := hD.tab1.top.cell hin
      have p2 := hD.tab2.top.cell hin
      go_wp2
      go_loopg [19, 20] nn (fun g j _ wx => wx = wr ∧ ∃ c : Nat, c ≤ nn ∧ g = nn - c ∧ j = .int .i64 c)
      case atStart => exact ⟨rfl, 0, Nat.zero_le _, rfl, rfl⟩
      case round =>
        obtain ⟨rfl, c, hc, rfl, rfl⟩ := hrel
        by_cases hcn : c < nn
        · have hcnz : (c : Int) < (nn : Int) := by omega
          have p3 := (hD.tab1.row i hin).2.cell hcn
          have p4 := (hD.tab2.row i hin).2.cell hcn
          by_cases e1 : i = k0
          · subst e1
            by_cases e2 : c = u0
            · subst e2
              by_cases e3 : time ≤ bCell rl L Z i c
              · rw [show lowX i (c + 1) time (bCell rl L Z) i c = IntKind.u64.wrap (time - 1) from if_pos ⟨rfl, rfl, e3⟩] at p3
                go_wp2
                go_roundg (nn - (c + 1))
                case measure => go_light; omega
                case rel =>
                  go_light
                  exact ⟨rfl, c + 1, by omega, rfl, by go_num⟩
              · rw [show lowX i (c + 1) time (bCell rl L Z) i c = bCell rl L Z i c from if_neg (fun h => e3 h.2.2)] at p3
                go_wp2
                go_roundg (nn - (c + 1))
                case measure => go_light; omega
                case rel =>
                  go_light
                  exact ⟨rfl, c + 1, by omega, rfl, by go_num⟩
            · rw [show lowX i (u0 + 1) time (bCell rl L Z) i c = bCell rl L Z i c from if_neg (fun h => e2 (by omega))] at p3
              have e2' : ((c : Int) == (u0 : Int)) = false := by simp; omega
              go_wp2
              go_roundg (nn - (c + 1))
              case measure => go_light; omega
              case rel =>
                go_light
                exact ⟨rfl, c + 1, by omega, rfl, by go_num⟩
          · rw [show lowX k0 (u0 + 1) time (bCell rl L Z) i c = bCell rl L Z i c from if_neg (fun h => e1 h.1)] at p3
            have e1' : ((i : Int) == (k0 : Int)) = false := by simp; omega
            go_wp2
            go_roundg (nn - (c + 1))
            case measure => go_light; omega
            case rel =>
              go_light
              exact ⟨rfl, c + 1, by omega, rfl, by go_num⟩
        · go_wp2
          go_roundg (nn - (i + 1))
          case measure => go_light; omega
          case rel =>
            go_light
            exact ⟨rfl, i + 1, by omega, rfl, by go_num⟩
    · have hB0 := Below.refl wr.heap.size wr
      clear q1 q2 q3 q4 hb1 hb2 hR hU
      have q4 : wr.cell? ⟨w2.heap.size, 1, none⟩ = some (.slice va2 ul cap2) := by simp [World.cell?, hD.t2]
      go_wp2
      clear q4
      obtain ⟨W, hWW⟩ : ∃ W : World, W = wr := ⟨_, rfl⟩
      subst hWW
      go_loopg [126] ul (fun g i wx => ∃ m : Nat, m ≤ ul ∧ g = ul - m ∧ i = .int .i64 m ∧ Below W.heap.size W wx)
      case atStart => exact ⟨0, Nat.zero_le _, rfl, rfl, hB0⟩
      case round =>
        clear hB0
        obtain ⟨m, hm, rfl, rfl, hB⟩ := hrel
        have hD' := hD.later hB
        by_cases hmu : m < ul
        · have hmuz : (m : Int) < (ul : Int) := by omega
          have g1 : (List.map (lowR k0 (u0 + 1) time) (bRuns nn nd fr L' Z' Bk1 ul))[m]? = some (lowR k0 (u0 + 1) time (bRun nn nd fr L' Z' Bk1 m)) := by simp [bRuns_get _ _ _ _ _ _ _ _ hmu]
          have g2 := bRuns_get nn nd fr L' Z' Bk2 ul m hmu
          obtain ⟨ga, rfl, -, hga, a0, a1, a2, -⟩ := hD'.tab1.run_at g1
          obtain ⟨gb', rfl, -, hgb, b0, b1, b2, -⟩ := hD'.tab2.run_at g2
          have ha := (hD'.tab1.held _ (List.mem_of_getElem? g1)).2
          have hb := (hD'.tab2.held _ (List.mem_of_getElem? g2)).2
          clear g1 g2
          rw [lowR_node] at a0
          rw [lowR_frm] at a1
          rw [lowR_blk] at a2 ha
          have q1 : wr.cell? ⟨w1.heap.size, 1, none⟩ = some (.slice (some ⟨ga, 0, none⟩) ul cap1) := by simp [World.cell?, hD'.t1]
          have q2 : wr.cell? ⟨w2.heap.size, 1, none⟩ = some (.slice (some ⟨gb', 0, none⟩) ul cap2) := by simp [World.cell?, hD'.t2]
          have l1 : w1.heap.size < wr.heap.size := (Array.getElem?_eq_some_iff.1 hD'.t1).1
          have l2 : w2.heap.size < wr.heap.size := (Array.getElem?_eq_some_iff.1 hD'.t2).1
          obtain ⟨hv, hhv⟩ : ∃ hv : Nat → Int, hv = fun j => if j < L' m then Z' m j else fr m := ⟨_, rfl⟩
          have ha' : ∀ c, c < nn → wr.cell? ⟨Bk1 m, c, none⟩ = some (.int .u64 (if c = k0 ∧ nd m % nn + 1 = u0 + 1 ∧ fr m < time ∧ time ≤ hv k0 then IntKind.u64.wrap (time - 1) else hv c)) := fun c hc => by
            have := ha.cell hc
            rw [lowR_held] at this
            rw [hhv]
            exact this
          have hb' : ∀ c, c < nn → wr.cell? ⟨Bk2 m, c, none⟩ = some (.int .u64 (hv c)) := fun c hc => by
            have := hb.cell hc
            rw [hhv]
            exact this
          have l3 : Bk1 m < wr.heap.size := ha.lt
          have l4 : Bk2 m < wr.heap.size := hb.lt
          clear ha hb hhv
          simp only [bRun] at a0 a1 a2 b0 b1 b2
          go_wp2
          clear a0 a1 a2 b0 b1 b2 q1 q2
          have hC : Cmp wr _ (nd m % nn + 1) (fr m) (.slice (some ⟨Bk2 m, 0, none⟩) nn nn) (nd m % nn + 1) (fr m) (.slice (some ⟨Bk1 m, 0, none⟩) nn nn) := cmp_mk wr _ _ _ _ _ _
          obtain ⟨wo, hwo⟩ : ∃ wo : World, wo = wr := ⟨_, rfl⟩
          subst hwo
          go_loopg [163, 24, 25] nn (fun g j _ _ wx => ∃ c : Nat, c ≤ nn ∧ g = nn - c ∧ j = .int .i64 c ∧ Cmp wo wx (nd m % nn + 1) (fr m) (.slice (some ⟨Bk2 m, 0, none⟩) nn nn) (nd m % nn + 1) (fr m) (.slice (some ⟨Bk1 m, 0, none⟩) nn nn))
          case atStart => exact ⟨0, Nat.zero_le _, rfl, rfl, hC⟩
          case round =>
            clear hC
            obtain ⟨c, hc, rfl, rfl, hC⟩ := hrel
            have b0 : wr.cell? ⟨wo.heap.size, 0, none⟩ = some (.int .i64 (nd m % nn + 1)) := by simp [World.cell?, hC.b]
            have b1 : wr.cell? ⟨wo.heap.size, 1, none⟩ = some (.int .u64 (fr m)) := by simp [World.cell?, hC.b]
            have b2 : wr.cell? ⟨wo.heap.size, 2, none⟩ = some (.slice (some ⟨Bk2 m, 0, none⟩) nn nn) := by simp [World.cell?, hC.b]
            have a2 : wr.cell? ⟨wo.heap.size + 1, 2, none⟩ = some (.slice (some ⟨Bk1 m, 0, none⟩) nn nn) := by simp [World.cell?, hC.a]
            by_cases hcn : c < nn
            · have hcnz : (c : Int) < (nn : Int) := by omega
              have p3 := cell_later hC.bel (ha' c hcn)
              have p4 := cell_later hC.bel (hb' c hcn)
              clear ha' hb'
              by_cases e1 : c = k0
              · subst e1
                by_cases e2 : nd m % (nn : Int) = u0
                · have e2' : (nd m % (nn : Int) + 1 == (u0 : Int) + 1) = true := by simp [e2]
                  by_cases e3 : fr m < time
                  · by_cases e4 : time ≤ hv c
                    · rw [if_pos ⟨rfl, by omega, e3, e4⟩] at p3
                      clear e2
                      go_wp2
                      go_roundg (nn - (c + 1))
                      case measure => go_light; omega
                      case rel => go_light; exact ⟨c + 1, by omega, rfl, by go_num, hC⟩
                    · rw [if_neg (fun h => e4 h.2.2.2)] at p3
                      clear e2
                      go_wp2
                      go_roundg (nn - (c + 1))
                      case measure => go_light; omega
                      case rel => go_light; exact ⟨c + 1, by omega, rfl, by go_num, hC⟩
                  · rw [if_neg (fun h => e3 h.2.2.1)] at p3
                    clear e2
                    go_wp2
                    go_roundg (nn - (c + 1))
                    case measure => go_light; omega
                    case rel => go_light; exact ⟨c + 1, by omega, rfl, by go_num, hC⟩
                · have e2' : (nd m % (nn : Int) + 1 == (u0 : Int) + 1) = false := by simp; omega
                  rw [if_neg (fun h => e2 (by omega))] at p3
                  clear e2
                  go_wp2
                  go_roundg (nn - (c + 1))
                  case measure => go_light; omega
                  case rel => go_light; exact ⟨c + 1, by omega, rfl, by go_num, hC⟩
              · have e1' : ((c : Int) == (k0 : Int)) = false := by simp; omega
                rw [if_neg (fun h => e1 h.1)] at p3
                go_wp2
                go_roundg (nn - (c + 1))
                case measure => go_light; omega
                case rel => go_light; exact ⟨c + 1, by omega, rfl, by go_num, hC⟩
            · go_wp2
              go_roundg (ul - (m + 1))
              case measure => go_light; omega
              case rel => go_light; exact ⟨m + 1, by omega, rfl, by go_num, hB.trans (hC.bel.mono hB.size)⟩
        · go_wp2
          go_ret
          exact ⟨rfl, hD'.bel⟩

set_option maxRecDepth 100000 in
theorem exact_long (w : World) (v0 v1 : Value) (ua : Option Addr) (ul uc : Nat) (v3 v4 v5 : Value) (h : 1024 < ul) :
    Calls Yba.prog 3 #[v0, v1, .slice ua ul uc, v3, v4, v5] w fun e w' => e = .returned (.bool true) ∧ Below w.heap.size w w' := by
  have hz : (1024 : Int) < (ul : Int) := by omega
  go_enter Yba.func3, Yba.ntmps3
  go_wp2
  go_ret
  exact ⟨rfl, Below.refl _ _⟩
end Go.Proofs.Ybulkbsio
