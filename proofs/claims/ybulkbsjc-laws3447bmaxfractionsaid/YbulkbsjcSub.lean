/-
  '(*loadTally).count' with n = -1: a bin less, of a capacity and a load that are there.
-/
import Derived.Test.YbulkbsjcAdd
namespace Go.Proofs.Ybulkbsjc
open Go.RowKit Go.Deep Go.Maps

theorem Mid.same {w w' : World} {lo k tb bm : Nat} {T : Nat → Nat → Nat} {G : Nat → Nat} {V : Nat → Value} {N top : Nat → Nat} {c g : Nat} {v : Value} {n tp s : Nat} {R : Nat → Nat}
    (h : Mid w lo k tb bm T G V N top c g v n tp s R) (e : w'.heap = w.heap) : Mid w' lo k tb bm T G V N top c g v n tp s R where
  tlo := h.tlo
  blo := h.blo
  htb := by obtain ⟨ov, hr⟩ := h.htb; exact ⟨ov, hr.of_block (by rw [e])⟩
  map := h.map.of_block (by rw [e])
  rng := h.rng
  bd := h.bd
  glo := h.glo
  row := h.row.of_block (by rw [e])
  own := own_kept h.own (fun _ _ => by rw [e])
  n16 := h.n16
  oth := fun x hx hp => ⟨(h.oth x hx hp).1.of_blocks (by rw [e]) (fun _ _ => by rw [e]), (h.oth x hx hp).2⟩
  apart := h.apart

set_option maxRecDepth 100000 in
set_option maxHeartbeats 2000000 in
theorem count_sub (w : World) (lo k tb bm : Nat) (T : Nat → Nat → Nat) (G : Nat → Nat) (V : Nat → Value) (N top : Nat → Nat) (h : Tal w lo k tb bm T G V N top) (hk : k ≤ 4000)
    (c l : Nat) (hc : 1 ≤ c ∧ c ≤ 8) (hl : l < 16) (hpos : 0 < T c l) :
    Calls Yba.prog 8 #[.pointer (some ⟨tb, 0, none⟩), .int .i64 l, .int .i64 c, .int .i64 (-1)] w fun e w' => e = .returned (.tuple #[]) ∧ Kp lo w w' ∧ ∃ G' V' N' top', Tal w' lo k tb bm (upd T c l (T c l - 1)) G' V' N' top' := by
  have hbk := h.bd c
  have hxb := le_bins (T c) hl
  have hp : 0 < bins (T c) := by omega
  obtain ⟨T', hT'⟩ : ∃ T', upd T c l (T c l - 1) = T' := ⟨_, rfl⟩
  rw [hT']
  go_enter Yba.func8, Yba.ntmps8
  go_upto_if 11 with fail
  go_cut [] (fun wc => Kp lo w wc ∧ Tal wc lo k tb bm T G V N top)
  case first =>
    obtain ⟨ov, hrow⟩ := h.htb
    have c1 : w.cell? ⟨tb, 1, none⟩ = some (.int .i64 ov) := hrow.cell (by omega)
    have f1 : w.frozen? ⟨tb, 1, none⟩ = false := hrow.frozen 1
    by_cases hov : (c : Int) < l
    · go_wp2_with fail
      go_meet
      case rel => exact ⟨(Kp.refl lo w).grown (grown_set _ _ _) (fun b e => by cases e; exact ⟨h.tlo, not33 hrow (by decide)⟩), h.over _⟩
    · go_wp2_with fail
      go_meet
      case rel => exact ⟨Kp.refl lo w, h⟩
  case rest =>
    obtain ⟨hKA, hA⟩ := hcut
    clear h
    obtain ⟨ov, hrow⟩ := hA.htb
    have c0 : wc.cell? ⟨tb, 0, none⟩ = some (.map (some bm)) := hrow.cell (by omega)
    have hlook := hA.map.look (c := c) (by omega)
    rw [if_pos hp] at hlook
    simp only [ptrV, Option.map] at hlook
    have hL := hA.lc c hp
    have hC := hA.mid hp
    obtain ⟨g, hgG⟩ : ∃ g, G c = g := ⟨_, rfl⟩
    obtain ⟨v, hvV⟩ : ∃ v, V c = v := ⟨_, rfl⟩
    obtain ⟨n, hnN⟩ : ∃ n, N c = n := ⟨_, rfl⟩
    obtain ⟨tp, htT⟩ : ∃ tp, top c = tp := ⟨_, rfl⟩
    rw [hgG] at hlook
    rw [hgG, hvV, hnN, htT] at hL hC
    have htn := hL.top
    have htp := hL.pos
    have hover := hL.over
    have hn16 := hL.n16
    clear hL hgG hvV hnN htT
    have hltp : l ≤ tp := by
      rcases Nat.lt_or_ge tp l with h1 | h1
      · have := hover l h1 hl; omega
      · exact h1
    obtain ⟨va, cap, rfl, hform⟩ := own_form hC.own
    obtain ⟨b, rfl, hvb, hcell, hfroz⟩ := hform (by omega)
    obtain ⟨B, hB⟩ : ∃ B, bins (T c) = B := ⟨_, rfl⟩
    obtain ⟨B1, hB1⟩ : ∃ B1, B - 1 = B1 := ⟨_, rfl⟩
    obtain ⟨x, hx⟩ : ∃ x, T c l = x := ⟨_, rfl⟩
    obtain ⟨x1, hx1⟩ : ∃ x1, x - 1 = x1 := ⟨_, rfl⟩
    have zb : IntKind.i64.wrap ((B : Int) + -1) = (B1 : Int) := by rw [IntKind.wrap_i64]; omega
    have zx : IntKind.i64.wrap ((x : Int) + -1) = (x1 : Int) := by rw [IntKind.wrap_i64]; omega
    have hl0 : (l : Int) < (n : Int) := by omega
    have hl1 : ¬ ((n : Int) ≤ (l : Int)) := by omega
    rw [hB] at hC
    have hC1 := hC.put 0 (.int .i64 (B1 : Int)) (s' := B1) (tp' := tp) (fun j hj => by unfold lcRow; rcases (by omega : j = 0 ∨ j = 1 ∨ j = 2) with rfl | rfl | rfl <;> simp)
    have hC2 := hC1.putRow hvb l x1
    have a0 : wc.cell? ⟨g, 0, none⟩ = some (.int .i64 (B : Int)) := hC.row.cell (i := 0) (by omega)
    have a0f : wc.frozen? ⟨g, 0, none⟩ = false := hC.row.frozen 0
    have a01 : wc.cell? ⟨g, 1, none⟩ = some (.slice (some ⟨b, 0, none⟩) n cap) := hC.row.cell (i := 1) (by omega)
    have a1 : (wc.setCell ⟨g, 0, none⟩ (.int .i64 (B1 : Int))).cell? ⟨g, 1, none⟩ = some (.slice (some ⟨b, 0, none⟩) n cap) := hC1.row.cell (i := 1) (by omega)
    have a2 : (wc.setCell ⟨g, 0, none⟩ (.int .i64 (B1 : Int))).cell? ⟨b, l, none⟩ = some (.int .i64 (x : Int)) := by
      have := hcell l (by omega)
      rw [hx] at this
      rw [← this]
      exact World.cell?_of_block (blk_setCell_other _ _ _ _ (fun e => row_ne_own hC.row (by decide) hC.own (hvb.trans (congrArg some e))))
    have a2f : (wc.setCell ⟨g, 0, none⟩ (.int .i64 (B1 : Int))).frozen? ⟨b, l, none⟩ = false := by
      rw [← hfroz l]
      exact World.frozen?_of_block (blk_setCell_other _ _ _ _ (fun e => row_ne_own hC.row (by decide) hC.own (hvb.trans (congrArg some e))))
    have hbs := bins_set (T c) hl x1
    have hKC : Kp lo w ((wc.setCell ⟨g, 0, none⟩ (.int .i64 (B1 : Int))).setCell ⟨b, l, none⟩ (.int .i64 (x1 : Int))) :=
      (hKA.grown (grown_set _ _ _) (fun b' e => by cases e; exact ⟨hC.glo, not33 hC.row (by decide)⟩)).grown (grown_set _ _ _) (fun b' e => by cases e; exact own_not33 hC1.own hvb)
    clear hC1 hform hcell hfroz
    go_upto_region 12 with fail
    obtain ⟨wd, hwd⟩ : ∃ wd, (wc.setCell ⟨g, 0, none⟩ (.int .i64 (B1 : Int))).setCell ⟨b, l, none⟩ (.int .i64 (x1 : Int)) = wd := ⟨_, rfl⟩
    rw [hwd] at hC2 hKC ⊢
    clear a0 a0f a01 a1 a2 a2f hwd hlook c0
    have a3 : wd.cell? ⟨g, 0, none⟩ = some (.int .i64 (B1 : Int)) := hC2.row.cell (i := 0) (by omega)
    obtain ⟨ov', hrow'⟩ := hC2.htb
    have a4 : wd.cell? ⟨tb, 0, none⟩ = some (.map (some bm)) := hrow'.cell (i := 0) (by omega)
    by_cases hB0 : B1 = 0
    · subst hB0
      go_wp2_with (first
        | (at_delete; refine wpList_delete_M _ rfl _ _ rfl bm k _ c rfl hC2.map (by omega) rfl ?_; intro w2 hM2 hg2)
        | fail)
      go_end0
      refine ⟨rfl, hKC.grown hg2 (fun b' e => by cases e; exact ⟨hC2.blo, hC2.map.not33⟩), G, V, N, top, ?_⟩
      rw [← hT', hx, hx1]
      exact hC2.gone (by omega) hM2 (fun _ => rfl) hg2
    · have zB0 : ((B1 : Int) == 0) = false := by simp; omega
      obtain ⟨R, hR⟩ : ∃ R : Nat → Nat, (fun j => if j = l then x1 else T c j) = R := ⟨_, rfl⟩
      rw [hR] at hC2 hbs
      have hRo : ∀ j, tp < j → j < 16 → R j = 0 := fun j hj hj16 => by rw [← hR]; simp only [if_neg (show ¬ j = l by omega)]; exact hover j hj hj16
      have hTR : T' = fun a => if a = c then R else T a := by rw [← hT', ← hR, ← hx1, ← hx]; rfl
      clear hT' hover hR
      obtain ⟨p, hp16, hpR⟩ : ∃ p, p < 16 ∧ 0 < R p := sumTo_pos R 16 (by show 0 < bins R; omega)
      have hfin : ∀ (wr : World) (t : Nat), Mid wr lo k tb bm T G V N top c g (.slice (some ⟨b, 0, none⟩) n cap) n t B1 R → t ≤ tp → 0 < R t → (∀ j, t < j → j < 16 → R j = 0) → ∃ G' V' N' top', Tal wr lo k tb bm T' G' V' N' top' := fun wr t hM htt h0 ho => by
        rw [hTR]
        exact ⟨_, _, _, _, hM.tal hc (by omega) (by omega) (by omega) (by omega) h0 ho⟩
      clear hTR hbs hA
      go_wp2_with fail
      go_loopg [91] tp (fun q _ wr => ∃ t : Nat, q = t ∧ t ≤ tp ∧ Kp lo w wr ∧ Mid wr lo k tb bm T G V N top c g (.slice (some ⟨b, 0, none⟩) n cap) n t B1 R ∧ ∀ j, t < j → j < 16 → R j = 0)
      case atStart => exact ⟨tp, rfl, Nat.le_refl _, hKC, hC2, hRo⟩
      case round =>
        obtain ⟨t, hq, htt, hKR, hMR, hoR⟩ := hrel
        have r1 : wr.cell? ⟨g, 1, none⟩ = some (.slice (some ⟨b, 0, none⟩) n cap) := hMR.row.cell (i := 1) (by omega)
        have r2 : wr.cell? ⟨g, 2, none⟩ = some (.int .i64 (t : Int)) := hMR.row.cell (i := 2) (by omega)
        have r2f : wr.frozen? ⟨g, 2, none⟩ = false := hMR.row.frozen 2
        obtain ⟨va', cap', hvv, hform⟩ := own_form hMR.own
        injection hvv with hv1 hv2 hv3
        subst hv1
        subst hv3
        obtain ⟨b', hb1, -, hcell, -⟩ := hform (by omega)
        have hb2 : b' = b := by have := Option.some.inj hb1; injection this with h1; exact h1.symm
        subst hb2
        have r3 := hcell t (by omega)
        obtain ⟨y, hy⟩ : ∃ y, R t = y := ⟨_, rfl⟩
        rw [hy] at r3
        have htn0 : (t : Int) < (n : Int) := by omega
        have hpt : p ≤ t := by
          rcases Nat.lt_or_ge t p with h1 | h1
          · have := hoR p h1 hp16; omega
          · exact h1
        clear hcell hform
        by_cases hy0 : y = 0
        · subst hy0
          have htp0 : t ≠ p := by rintro rfl; omega
          obtain ⟨t1, ht1⟩ : ∃ t1, t - 1 = t1 := ⟨_, rfl⟩
          have zt : IntKind.i64.wrap ((t : Int) - 1) = (t1 : Int) := by rw [IntKind.wrap_i64]; omega
          go_wp2_with fail
          go_quiet (fail)
          go_wp2_with fail
          go_roundg t1
          case measure => go_light; omega
          case rel =>
            go_light
            have hN : (wr.drewN nq).heap = wr.heap := rfl
            have hg1 : wr.grownBy (wr.drewN nq) none := ⟨rfl, rfl, rfl, Nat.le_refl _, fun _ _ _ => rfl⟩
            have hMN := hMR.same hN
            refine ⟨t1, rfl, by omega, (hKR.grown hg1 (fun b' e => by cases e)).grown (grown_set _ _ _) (fun b' e => by cases e; exact ⟨hMR.glo, not33 hMN.row (by decide)⟩), hMN.put 2 _ (fun j hj => by unfold lcRow; rcases (by omega : j = 0 ∨ j = 1 ∨ j = 2) with rfl | rfl | rfl <;> simp), fun j hj hj16 => ?_⟩
            by_cases e : j = t
            · subst e; exact hy
            · exact hoR j (by omega) hj16
        · have hyb : ((y : Int) == 0) = false := by simp; omega
          go_wp2_with fail
          go_quiet (fail)
          go_wp2_with fail
          go_end0
          have hN : (wr.drewN nq).heap = wr.heap := rfl
          have hg1 : wr.grownBy (wr.drewN nq) none := ⟨rfl, rfl, rfl, Nat.le_refl _, fun _ _ _ => rfl⟩
          exact ⟨rfl, hKR.grown hg1 (fun b' e => by cases e), hfin _ t (hMR.same hN) htt (by omega) hoR⟩
end Go.Proofs.Ybulkbsjc
