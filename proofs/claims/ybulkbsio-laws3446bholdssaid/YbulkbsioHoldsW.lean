import Derived.Test.YbulkbsioHolds
namespace Go.Proofs.Ybulkbsio
open Go.RowKit Go.Deep

/-! ### The plain law -/

theorem low_not_holds {k u : Nat} {t : Int} (X : Nat → Nat → Int) (rs : List Rn) (ht : 1 ≤ t) (ht2 : t < 18446744073709551616) : holdsB k u t (lowX k (u + 1) t X) (rs.map (lowR k (u + 1) t)) = false := by
  have hw : IntKind.u64.wrap (t - 1) = t - 1 := by rw [IntKind.wrap_u64]; omega
  simp only [holdsB, Bool.or_eq_false_iff, decide_eq_false_iff_not, List.any_eq_false]
  constructor
  · unfold lowX
    split
    · rw [hw]; omega
    · rename_i h
      intro h'
      exact h ⟨rfl, rfl, h'⟩
  · intro r hr
    obtain ⟨q, -, rfl⟩ := List.mem_map.1 hr
    simp only [runHolds, decide_eq_true_eq, lowR_node, lowR_frm, lowR_held]
    rintro ⟨h1, h2, h3⟩
    split at h3
    · rw [hw] at h3; omega
    · rename_i h
      exact h ⟨trivial, h1, h2, h3⟩

/-- Runs that part in their blocks alone. -/
def Alike2 (rs rs' : List Rn) : Prop := rs.map (fun r => (r.node, r.frm, r.held)) = rs'.map (fun r => (r.node, r.frm, r.held))

theorem any_alike {rs rs' : List Rn} (h : Alike2 rs rs') (k : Nat) (U t : Int) : rs.any (runHolds k U t) = rs'.any (runHolds k U t) := by
  have key : ∀ l : List Rn, l.any (runHolds k U t) = (l.map (fun r => (r.node, r.frm, r.held))).any (fun p : Int × Int × (Nat → Int) => decide (p.1 = U ∧ p.2.1 < t ∧ t ≤ p.2.2 k)) := fun l => by
    rw [List.any_map]; rfl
  rw [key, key, h]

theorem low_holds {k u a b : Nat} {t T : Int} (X : Nat → Nat → Int) (rs : List Rn) (ht : 1 ≤ t) (ht2 : t < 18446744073709551616) (hne : ¬ (a = k ∧ b = u ∧ t ≤ T)) :
    holdsB a b T (lowX k (u + 1) t X) (rs.map (lowR k (u + 1) t)) = holdsB a b T X rs := by
  have hw : IntKind.u64.wrap (t - 1) = t - 1 := by rw [IntKind.wrap_u64]; omega
  have h1 : decide (T ≤ lowX k (u + 1) t X a b) = decide (T ≤ X a b) := by
    unfold lowX
    split
    · rename_i h
      rw [hw]
      have : ¬ t ≤ T := fun h' => hne ⟨h.1, by omega, h'⟩
      have e1 : T ≤ t - 1 := by omega
      have e2 : T ≤ X a b := by omega
      simp [e1, e2]
    · rfl
  have h2 : (rs.map (lowR k (u + 1) t)).any (runHolds a (b + 1) T) = rs.any (runHolds a (b + 1) T) := by
    rw [List.any_map]
    congr 1
    funext r
    simp only [Function.comp_apply, runHolds, lowR_node, lowR_frm, lowR_held]
    by_cases h : a = k ∧ r.node = u + 1 ∧ r.frm < t ∧ t ≤ r.held k
    · rw [if_pos h, hw]
      obtain ⟨rfl, e1, e2, e3⟩ := h
      by_cases e : r.node = b + 1
      · have : ¬ t ≤ T := fun h' => hne ⟨rfl, by omega, h'⟩
        have q1 : T ≤ t - 1 := by omega
        have q2 : T ≤ r.held a := by omega
        simp [q1, q2]
      · simp [e]
    · rw [if_neg h]
  simp only [holdsB, h1, h2]

theorem bRuns_alike (nn : Nat) (nd fr : Nat → Int) (L : Nat → Nat) (Z : Nat → Nat → Int) (Bk Bk' : Nat → Nat) (m : Nat) : Alike2 (bRuns nn nd fr L Z Bk m) (bRuns nn nd fr L Z Bk' m) := by
  unfold Alike2 bRuns
  rw [List.map_map, List.map_map]
  rfl

theorem cand_new (wo : World) (x y z : Int) : ∀ c, c < 3 → ∃ T, (wo.alloc (.cells #[.int .u64 x, .int .u64 y, .int .u64 z] 37)).cell? ⟨wo.heap.size, c, none⟩ = some (.int .u64 T) := by
  intro c hc
  have hb := blk_alloc_new wo (.cells #[.int .u64 x, .int .u64 y, .int .u64 z] 37)
  match c, hc with
  | 0, _ => exact ⟨x, (cell_of_row _ _ _ _ _ _ hb).trans rfl⟩
  | 1, _ => exact ⟨y, (cell_of_row _ _ _ _ _ _ hb).trans rfl⟩
  | 2, _ => exact ⟨z, (cell_of_row _ _ _ _ _ _ hb).trans rfl⟩

theorem cand_later {wr w' : World} {B : Nat} (h : ∀ c, c < 3 → ∃ T, wr.cell? ⟨B, c, none⟩ = some (.int .u64 T)) (hb : Below wr.heap.size wr w') : ∀ c, c < 3 → ∃ T, w'.cell? ⟨B, c, none⟩ = some (.int .u64 T) := fun c hc => by
  obtain ⟨T, hT⟩ := h c hc
  exact ⟨T, cell_later hb hT⟩

set_option maxHeartbeats 2000000 in
set_option maxRecDepth 100000 in
theorem holds_walk (w : World) (n : Int) (hn0 : 0 ≤ n) (hn1 : n ≤ 255) (nn : Nat) (hnn : n % 6 + 1 = nn) (ra : Option Addr) (rl rc : Nat) (gb go : Nat) (A : Nat → Option Addr) (L C RB RO : Nat → Nat) (Z : Nat → Nat → Int) (ua : Option Addr) (ul uc : Nat) (ub uo : Nat) (nd fr : Nat → Int) (A' : Nat → Option Addr) (L' C' RB' RO' : Nat → Nat) (Z' : Nat → Nat → Int)
    (k node time : Int) (k0 u0 : Nat) (hk : 0 ≤ k ∧ k ≤ 255) (hu : 0 ≤ node ∧ node ≤ 255) (hk0 : k % nn = k0) (hu0 : node % nn = u0) (hkn : k0 < nn) (hun : u0 < nn) (ht1 : 1 ≤ time) (ht2 : Hid (time < 18446744073709551616))
    (hR : RowsIn w ra rl gb go A L C RB RO Z) (hU : RunsIn w ua ul ub uo nd fr A' L' C' RB' RO' Z') (hul : ul ≤ 1024) :
    Calls Yba.prog 4 #[.int .u8 n, .slice ra rl rc, .slice ua ul uc, .int .u8 k, .int .u8 node, .int .u64 time] w fun e w' => e = .returned (.bool true) ∧ Below w.heap.size w w' := by
  have h1 : 1 ≤ nn := by omega
  have h6 : nn ≤ 6 := by omega
  go_enter Yba.func4, Yba.ntmps4
  go_wp2_with fail
  refine (build_any w n hn0 hn1 nn hnn ra rl rc gb go A L C RB RO Z ua ul uc ub uo nd fr A' L' C' RB' RO' Z' hR hU hul).mono ?_
  rintro e w1 ⟨v1, Bk1, rfl, hb1, T1⟩
  obtain ⟨va1, cap1, rfl, hc1, hm1, -⟩ := T1.slice
  rw [bRuns_len] at T1 hc1 ⊢
  go_wp2_with fail
  refine (build_any _ n hn0 hn1 nn hnn ra rl rc gb go A L C RB RO Z ua ul uc ub uo nd fr A' L' C' RB' RO' Z' (hR.below (hb1.alloc hb1.size _)) (hU.below (hb1.alloc hb1.size _)) hul).mono ?_
  rintro e w2 ⟨v2, Bk2, rfl, hb2, T2⟩
  obtain ⟨va2, cap2, rfl, hc2, hm2, -⟩ := T2.slice
  rw [bRuns_len] at T2 hc2 ⊢
  go_wp2_with fail
  have hvar := first_var (o2 := .cells #[.slice (some ⟨w1.heap.size + 1 + 2, 0, none⟩) nn nn, .slice va2 ul cap2] 27) hb2
  refine (lower_any _ _ nn w1.heap.size (w.heap.size + 2) (fun i => w.heap.size + 3 + i) (bCell rl L Z) (bRuns nn nd fr L' Z' Bk1 ul) _ _ (k0 + 1) (u0 + 1) time h6 (by omega) (by omega) (by omega) (by omega) ((first_kept T1 hb2).alloc _) (by rw [blk_alloc_lt _ _ _ (Array.getElem?_eq_some_iff.1 hvar).1]; exact hvar) (by rw [bRuns_len]; omega)).mono ?_
  rintro e W ⟨rfl, hk3, ht3, T3⟩
  rw [show ((k0 : Int) + 1 - 1).toNat = k0 from by omega] at T3
  simp only [nblk_alloc] at T2
  have hs2 : w1.heap.size + 1 ≤ w2.heap.size := by have := hb2.size; rw [nblk_alloc] at this; exact this
  have htag : W.heap[w2.heap.size + 1]? = some (.cells #[.int .i64 (u0 + 1), .int .u64 time] 31 (0, 0)) := by
    rw [hk3.block _ (by simp) (fun h => by omega)]
    have := blk_alloc_new (w2.alloc (.cells #[.slice (some ⟨w1.heap.size + 1 + 2, 0, none⟩) nn nn, .slice va2 ul cap2] 27)) (.cells #[.int .i64 (u0 + 1), .int .u64 time] 31)
    rw [nblk_alloc] at this
    exact this
  have hD := duo_mk hb1 hb2 T2 (((Kept.refl _ _).alloc _).trans hk3 (fun i _ h => h)) ht3 T3
  clear hk3 ht3 T3 T2 T1 hvar hs2 hR hU hb1 hb2
  have q1 : W.cell? ⟨w1.heap.size, 0, none⟩ = some (.slice (some ⟨w.heap.size + 2, 0, none⟩) nn nn) := by simp [World.cell?, hD.t1]
  have q2 : W.cell? ⟨w1.heap.size, 1, none⟩ = some (.slice va1 ul cap1) := by simp [World.cell?, hD.t1]
  have q3 : W.cell? ⟨w2.heap.size + 1, 0, none⟩ = some (.int .i64 (u0 + 1)) := by simp [World.cell?, htag]
  have q4 : W.cell? ⟨w2.heap.size + 1, 1, none⟩ = some (.int .u64 time) := by simp [World.cell?, htag]
  go_wp2_with fail
  refine (holds_any _ _ nn (w.heap.size + 2) _ _ _ _ _ (k0 + 1) (u0 + 1) time h6 (by omega) (by omega) (by omega) (by omega) hD.tab1 (by rw [List.length_map, bRuns_len]; omega)).mono ?_
  rintro e W2 ⟨rfl, hb3⟩
  rw [show ((k0 : Int) + 1 - 1).toNat = k0 from by omega, show ((u0 : Int) + 1 - 1).toNat = u0 from by omega, low_not_holds _ _ ht1 ht2.out]
  have hD2 := hD.later hb3
  clear hD q1 q2 q3 q4 htag hb3
  go_wp2
  obtain ⟨W, hWW⟩ : ∃ W : World, W = W2 := ⟨_, rfl⟩
  subst hWW
  go_loopg [19] nn (fun g i wx => ∃ m : Nat, m ≤ nn ∧ g = nn - m ∧ i = .int .i64 (m + 1) ∧ Below W.heap.size W wx)
  case atStart => exact ⟨0, Nat.zero_le _, rfl, rfl, Below.refl _ _⟩
  case round =>
    obtain ⟨a, ha, rfl, rfl, hB⟩ := hrel
    by_cases han : a < nn
    · have hanz : (a : Int) + 1 ≤ (nn : Int) := by omega
      go_wp2
      go_loopg [20] nn (fun g i wx => ∃ m : Nat, m ≤ nn ∧ g = nn - m ∧ i = .int .i64 (m + 1) ∧ Below W.heap.size W wx)
      case atStart => exact ⟨0, Nat.zero_le _, rfl, rfl, hB⟩
      case round =>
        clear hB
        obtain ⟨b, hb, rfl, rfl, hB⟩ := hrel
        by_cases hbn : b < nn
        · have hbnz : (b : Int) + 1 ≤ (nn : Int) := by omega
          go_wp2
          go_loopg [21] 25 (fun g i wx => ∃ m : Nat, m ≤ 25 ∧ g = 25 - m ∧ i = .int .u64 m ∧ Below W.heap.size W wx)
          case atStart => exact ⟨0, Nat.zero_le _, rfl, rfl, hB⟩
          case round =>
            clear hB
            obtain ⟨s, hs, rfl, rfl, hB⟩ := hrel
            by_cases hsn : s < 25
            · have hsnz : (s : Int) ≤ 24 := by omega
              go_wp2
              obtain ⟨wo, hwo⟩ : ∃ wo : World, wo = wr := ⟨_, rfl⟩
              subst hwo
              go_loopg [23] 3 (fun g i wx => ∃ m : Nat, m ≤ 3 ∧ g = 3 - m ∧ i = .int .i64 m ∧ Below W.heap.size W wx ∧ ∀ c, c < 3 → ∃ T, wx.cell? ⟨wo.heap.size, c, none⟩ = some (.int .u64 T))
              case atStart =>
                exact ⟨0, Nat.zero_le _, rfl, rfl, hB.alloc hB.size _, cand_new _ _ _ _⟩
              case round =>
                obtain ⟨c, hc, rfl, rfl, hB', hcand⟩ := hrel
                by_cases hcn : c < 3
                · obtain ⟨T, hT⟩ := hcand c hcn
                  have HC : Hid (∀ c, c < 3 → ∃ T, wr.cell? ⟨wo.heap.size, c, none⟩ = some (.int .u64 T)) := hcand
                  clear hcand
                  by_cases e : a = k0 ∧ b = u0 ∧ time ≤ T
                  · obtain ⟨rfl, rfl, e3⟩ := e
                    go_wp2
                    go_roundg (3 - (c + 1))
                    case measure => go_light; omega
                    case rel => go_light; exact ⟨c + 1, by omega, rfl, by go_num, hB'.alloc hB'.size _, cand_later HC.out ((Below.refl _ _).alloc (Nat.le_refl _) _)⟩
                  · rcases (show ¬ a = k0 ∨ (a = k0 ∧ ¬ b = u0) ∨ (a = k0 ∧ b = u0 ∧ ¬ time ≤ T) by omega) with e1 | ⟨e1, e2⟩ | ⟨e1, e2, e3⟩
                    case' inl => have e1' : (((a : Int) + 1) == ((k0 : Int) + 1)) = false := by simp; omega
                    case' inr.inl => subst e1; have e2' : (((b : Int) + 1) == ((u0 : Int) + 1)) = false := by simp; omega
                    case' inr.inr => subst e1; subst e2
                    all_goals
                      obtain ⟨bb, hbb⟩ : ∃ bb, bb = holdsB a b T (bCell rl L Z) (bRuns nn nd fr L' Z' Bk1 ul) := ⟨_, rfl⟩
                      have hbb2 : bb = holdsB a b T (bCell rl L Z) (bRuns nn nd fr L' Z' Bk2 ul) := by rw [hbb]; simp only [holdsB]; rw [any_alike (bRuns_alike nn nd fr L' Z' Bk1 Bk2 ul)]
                      have C1 : Hid (∀ wx, Below W.heap.size W wx → Calls Yba.prog 9 #[.agg #[.slice (some ⟨w.heap.size + 2, 0, none⟩) nn nn, .slice va1 ul cap1], .int .i64 (a + 1), .agg #[.int .i64 (b + 1), .int .u64 T]] wx fun e w' => e = .returned (.bool bb) ∧ Below wx.heap.size wx w') := fun wx hwx => by
                        have := holds_any wx _ nn (w.heap.size + 2) _ _ _ _ _ (a + 1) (b + 1) T h6 (by omega) (by omega) (by omega) (by omega) (hD2.later hwx).tab1 (by rw [List.length_map, bRuns_len]; omega)
                        rw [show ((a : Int) + 1 - 1).toNat = a from by omega, show ((b : Int) + 1 - 1).toNat = b from by omega, low_holds _ _ ht1 ht2.out e, ← hbb] at this
                        exact this
                      have C2 : Hid (∀ wx, Below W.heap.size W wx → Calls Yba.prog 9 #[.agg #[.slice (some ⟨w1.heap.size + 1 + 2, 0, none⟩) nn nn, .slice va2 ul cap2], .int .i64 (a + 1), .agg #[.int .i64 (b + 1), .int .u64 T]] wx fun e w' => e = .returned (.bool bb) ∧ Below wx.heap.size wx w') := fun wx hwx => by
                        have := holds_any wx _ nn (w1.heap.size + 1 + 2) _ _ _ _ _ (a + 1) (b + 1) T h6 (by omega) (by omega) (by omega) (by omega) (hD2.later hwx).tab2 (by rw [bRuns_len]; omega)
                        rw [show ((a : Int) + 1 - 1).toNat = a from by omega, show ((b : Int) + 1 - 1).toNat = b from by omega, ← hbb2] at this
                        exact this
                      have CC : Hid (∀ wx (v0 v1 : Value), ((v0 = .slice (some ⟨w.heap.size + 2, 0, none⟩) nn nn ∧ v1 = .slice va1 ul cap1) ∨ (v0 = .slice (some ⟨w1.heap.size + 1 + 2, 0, none⟩) nn nn ∧ v1 = .slice va2 ul cap2)) → Below W.heap.size W wx → Calls Yba.prog 9 #[.agg #[v0, v1], .int .i64 (a + 1), .agg #[.int .i64 (b + 1), .int .u64 T]] wx fun e w' => e = .returned (.bool bb) ∧ Below wx.heap.size wx w') := fun wx v0 v1 hv hwx => by
                        rcases hv with ⟨rfl, rfl⟩ | ⟨rfl, rfl⟩
                        · exact C1.out wx hwx
                        · exact C2.out wx hwx
                      clear hbb hbb2 C1 C2
                      have hD3 := hD2.later hB'
                      have q1 : wr.cell? ⟨w1.heap.size, 0, none⟩ = some (.slice (some ⟨w.heap.size + 2, 0, none⟩) nn nn) := by simp [World.cell?, hD3.t1]
                      have q2 : wr.cell? ⟨w1.heap.size, 1, none⟩ = some (.slice va1 ul cap1) := by simp [World.cell?, hD3.t1]
                      have q3 : wr.cell? ⟨w2.heap.size, 0, none⟩ = some (.slice (some ⟨w1.heap.size + 1 + 2, 0, none⟩) nn nn) := by simp [World.cell?, hD3.t2]
                      have q4 : wr.cell? ⟨w2.heap.size, 1, none⟩ = some (.slice va2 ul cap2) := by simp [World.cell?, hD3.t2]
                      have l1 : w1.heap.size < wr.heap.size := (Array.getElem?_eq_some_iff.1 hD3.t1).1
                      have l2 : w2.heap.size < wr.heap.size := (Array.getElem?_eq_some_iff.1 hD3.t2).1
                      clear hD3
                      have c1 : (wr.alloc (.cells #[.int .i64 (b + 1), .int .u64 T] 31)).cell? ⟨w1.heap.size, 0, none⟩ = some (.slice (some ⟨w.heap.size + 2, 0, none⟩) nn nn) := by rw [World.cell?_of_block (blk_alloc_lt _ _ _ l1)]; exact q1
                      have c2 : (wr.alloc (.cells #[.int .i64 (b + 1), .int .u64 T] 31)).cell? ⟨w1.heap.size, 1, none⟩ = some (.slice va1 ul cap1) := by rw [World.cell?_of_block (blk_alloc_lt _ _ _ l1)]; exact q2
                      have c3 : (wr.alloc (.cells #[.int .i64 (b + 1), .int .u64 T] 31)).cell? ⟨w2.heap.size, 0, none⟩ = some (.slice (some ⟨w1.heap.size + 1 + 2, 0, none⟩) nn nn) := by rw [World.cell?_of_block (blk_alloc_lt _ _ _ l2)]; exact q3
                      have c4 : (wr.alloc (.cells #[.int .i64 (b + 1), .int .u64 T] 31)).cell? ⟨w2.heap.size, 1, none⟩ = some (.slice va2 ul cap2) := by rw [World.cell?_of_block (blk_alloc_lt _ _ _ l2)]; exact q4
                      have c5 : (wr.alloc (.cells #[.int .i64 (b + 1), .int .u64 T] 31)).cell? ⟨wr.heap.size, 0, none⟩ = some (.int .i64 (b + 1)) := (cell_of_row _ _ _ _ _ _ (blk_alloc_new _ _)).trans rfl
                      have c6 : (wr.alloc (.cells #[.int .i64 (b + 1), .int .u64 T] 31)).cell? ⟨wr.heap.size, 1, none⟩ = some (.int .u64 T) := (cell_of_row _ _ _ _ _ _ (blk_alloc_new _ _)).trans rfl
                      have hq0 : Below (wr.alloc (.cells #[.int .i64 (b + 1), .int .u64 T] 31)).heap.size (wr.alloc (.cells #[.int .i64 (b + 1), .int .u64 T] 31)) (wr.alloc (.cells #[.int .i64 (b + 1), .int .u64 T] 31)).drew := (Below.refl _ _).drew
                      have hq1 : Below W.heap.size W (wr.alloc (.cells #[.int .i64 (b + 1), .int .u64 T] 31)) := hB'.alloc hB'.size _
                      go_upto_region 29 with fail
                      clear e
                      go_region_held3 (fun w' => w'.cell? ⟨w1.heap.size, 0, none⟩ = some (.slice (some ⟨w.heap.size + 2, 0, none⟩) nn nn) ∧ w'.cell? ⟨w1.heap.size, 1, none⟩ = some (.slice va1 ul cap1) ∧ w'.cell? ⟨w2.heap.size, 0, none⟩ = some (.slice (some ⟨w1.heap.size + 1 + 2, 0, none⟩) nn nn) ∧ w'.cell? ⟨w2.heap.size, 1, none⟩ = some (.slice va2 ul cap2) ∧ w'.cell? ⟨wr.heap.size, 0, none⟩ = some (.int .i64 (b + 1)) ∧ w'.cell? ⟨wr.heap.size, 1, none⟩ = some (.int .u64 T))
                        (first
                          | exact ⟨c1, c2, c3, c4, c5, c6⟩
                          | exact ⟨cell_later hBn c1, cell_later hBn c2, cell_later hBn c3, cell_later hBn c4, cell_later hBn c5, cell_later hBn c6⟩
                          | go_keep)
                        ((go_at_call 9; refine (CC.out _ _ _ ?_ ?_).mono ?_; (first | exact Or.inl ⟨rfl, rfl⟩ | exact Or.inr ⟨rfl, rfl⟩); (first | exact hq1.trans (hBn.mono hq1.size) | exact hq1.trans (hq0.mono hq1.size)); rintro e w'' ⟨rfl, hbx⟩; (first | have hBn := hBn.trans (hbx.mono hBn.size) | have hBn := hq0.trans (hbx.mono hq0.size))))
                      go_wp2
                      go_roundg (3 - (c + 1))
                      case measure => go_light; omega
                      case rel => go_light; exact ⟨c + 1, by omega, rfl, by go_num, hq1.trans (hBn.mono hq1.size), cand_later HC.out (((Below.refl _ _).alloc (Nat.le_refl _) _).trans (hBn.mono (by simp)))⟩
                · go_wp2
                  go_roundg (25 - (s + 1))
                  case measure => go_light; omega
                  case rel => go_light; exact ⟨s + 1, by omega, rfl, by go_num, hB'⟩
            · go_wp2
              go_roundg (nn - (b + 1))
              case measure => go_light; omega
              case rel => go_light; exact ⟨b + 1, by omega, rfl, by go_num, hB⟩
        · go_wp2
          go_roundg (nn - (a + 1))
          case measure => go_light; omega
          case rel => go_light; exact ⟨a + 1, by omega, rfl, by go_num, hB⟩
    · go_wp2
      go_ret
      exact ⟨rfl, (hD2.later hB).bel⟩

set_option maxRecDepth 100000 in
theorem holds_long (w : World) (v0 v1 : Value) (ua : Option Addr) (ul uc : Nat) (v3 v4 v5 : Value) (h : 1024 < ul) :
    Calls Yba.prog 4 #[v0, v1, .slice ua ul uc, v3, v4, v5] w fun e w' => e = .returned (.bool true) ∧ Below w.heap.size w w' := by
  have hz : (1024 : Int) < (ul : Int) := by omega
  go_enter Yba.func4, Yba.ntmps4
  go_wp2
  go_ret
  exact ⟨rfl, Below.refl _ _⟩

set_option maxRecDepth 100000 in
theorem holds_zero (w : World) (v0 v1 : Value) (ua : Option Addr) (ul uc : Nat) (v3 v4 : Value) (h : ul ≤ 1024) :
    Calls Yba.prog 4 #[v0, v1, .slice ua ul uc, v3, v4, .int .u64 0] w fun e w' => e = .returned (.bool true) ∧ Below w.heap.size w w' := by
  have hz : (ul : Int) ≤ 1024 := by omega
  go_enter Yba.func4, Yba.ntmps4
  go_wp2
  go_ret
  exact ⟨rfl, Below.refl _ _⟩
end Go.Proofs.Ybulkbsio
