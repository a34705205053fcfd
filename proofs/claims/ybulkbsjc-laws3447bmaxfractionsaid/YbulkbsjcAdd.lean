/-
  '(*loadTally).count' with n = 1: a bin more.
-/
import Derived.Test.YbulkbsjcMid
namespace Go.Proofs.Ybulkbsjc
open Go.RowKit Go.Deep Go.Maps

def upd (T : Nat → Nat → Nat) (c l x : Nat) : Nat → Nat → Nat := fun a => if a = c then (fun b => if b = l then x else T c b) else T a

set_option maxRecDepth 100000 in
set_option maxHeartbeats 2000000 in
theorem count_add (w : World) (lo k tb bm : Nat) (T : Nat → Nat → Nat) (G : Nat → Nat) (V : Nat → Value) (N top : Nat → Nat) (h : Tal w lo k tb bm T G V N top) (hlo : lo ≤ w.heap.size) (hk : k ≤ 4000)
    (c l : Nat) (hc : 1 ≤ c ∧ c ≤ 8) (hl : l < 16) :
    Calls Yba.prog 8 #[.pointer (some ⟨tb, 0, none⟩), .int .i64 l, .int .i64 c, .int .i64 1] w fun e w' => e = .returned (.tuple #[]) ∧ Kp lo w w' ∧ ∃ G' V' N' top', Tal w' lo (k + 1) tb bm (upd T c l (T c l + 1)) G' V' N' top' := by
  have hbk := h.bd c
  obtain ⟨T', hT'⟩ : ∃ T', upd T c l (T c l + 1) = T' := ⟨_, rfl⟩
  rw [hT']
  go_enter Yba.func8, Yba.ntmps8
  go_upto_if 11 with fail
  go_cut [] (fun wc => Kp lo w wc ∧ Tal wc lo k tb bm T G V N top)
  case first =>
    obtain ⟨ov, hrow⟩ := h.htb
    have c1 : w.cell? ⟨tb, 1, none⟩ = some (.int .i64 ov) := hrow.cell (by omega)
    have f1 : w.frozen? ⟨tb, 1, none⟩ = false := hrow.frozen 1
    by_cases hov : (c : Int) < l
    · go_wp2_with fail
      go_meet
      case rel => exact ⟨(Kp.refl lo w).grown (grown_set _ _ _) (fun b e => by cases e; exact ⟨h.tlo, not33 hrow (by decide)⟩), h.over _⟩
    · go_wp2_with fail
      go_meet
      case rel => exact ⟨Kp.refl lo w, h⟩
  case rest =>
    obtain ⟨hKA, hA⟩ := hcut
    have hloA : lo ≤ wc.heap.size := Nat.le_trans hlo hKA.size
    obtain ⟨ov, hrow⟩ := hA.htb
    have c0 : wc.cell? ⟨tb, 0, none⟩ = some (.map (some bm)) := hrow.cell (by omega)
    obtain ⟨o, ho⟩ : ∃ o, (if 0 < bins (T c) then some (G c) else none) = o := ⟨_, rfl⟩
    have hlook := hA.map.look (c := c) (by omega)
    rw [ho] at hlook
    go_upto_region 2 with fail
    go_cut [8] (fun s8 wx => s8 = ptrV o ∧ wx = wc)
    case first =>
      go_wp2_with fail
      go_meet
      case rel => exact ⟨rfl, rfl⟩
    case rest =>
      obtain ⟨rfl, rfl⟩ := hcut
      go_upto_region 3 with fail
      go_cut [8, 27] (fun s8 s27 wx => s8 = ptrV o ∧ s27 = .bool o.isNone ∧ wx = wc)
      case first =>
        cases o
        · simp only [ptrV, Option.map]
          go_wp2_with fail
          go_meet
          case rel => exact ⟨rfl, rfl, rfl⟩
        · simp only [ptrV, Option.map]
          go_wp2_with fail
          go_meet
          case rel => exact ⟨rfl, rfl, rfl⟩
      case rest =>
        obtain ⟨rfl, rfl, rfl⟩ := hcut
        go_upto_if 27 with fail
        go_cut [8, 27] (fun s8 _ wx => ∃ g v n tp, s8 = .pointer (some ⟨g, 0, none⟩) ∧ Kp lo w wx ∧ Mid wx lo (k + 1) tb bm T G V N top c g v n tp (bins (T c)) (T c) ∧ (∀ l, n ≤ l → l < 16 → T c l = 0) ∧ (tp = 0 ∨ (tp < n ∧ 0 < T c tp)) ∧ ∀ l, tp < l → l < 16 → T c l = 0)
        case first =>
          by_cases hp : 0 < bins (T c)
          · rw [if_pos hp] at ho
            subst ho
            have hL := hA.lc c hp
            simp only [ptrV, Option.map, Option.isNone]
            go_wp2_with fail
            go_meet
            case rel => exact ⟨G c, V c, N c, top c, rfl, hKA, (hA.mid hp).mono (Nat.le_succ k), fun l h1 h2 => hL.over l (by have := hL.top; omega) h2, .inr ⟨hL.top, hL.pos⟩, hL.over⟩
          · rw [if_neg hp] at ho
            subst ho
            simp only [ptrV, Option.map, Option.isNone]
            obtain ⟨ob, hob⟩ : ∃ ob : Obj, ob = .cells #[.int .i64 0, .slice none 0 0, .int .i64 0] 47 := ⟨_, rfl⟩
            have hg1 := World.grownBy_alloc wc ob none
            have cB : (wc.alloc (.cells #[.int .i64 0, .slice none 0 0, .int .i64 0] 47)).cell? ⟨tb, 0, none⟩ = some (.map (some bm)) := by rw [← hob]; exact (hrow.alloc ob).cell (i := 0) (by omega)
            have hrB : (wc.alloc ob).rowIs wc.heap.size 47 3 (lcRow 0 (.slice none 0 0) 0) := by
              rw [hob]
              exact World.rowIs_alloc wc _ 47 _ (fun i hi => by rcases (by simp at hi; omega : i = 0 ∨ i = 1 ∨ i = 2) with rfl | rfl | rfl <;> rfl)
            have hmB : MapIs (wc.alloc (.cells #[.int .i64 0, .slice none 0 0, .int .i64 0] 47)) bm k (fun c => if 0 < bins (T c) then some (G c) else none) := hA.map.of_block (blk_alloc_lt _ _ _ hA.map.lt)
            go_wp2_with (first
              | (at_mapUpdate; refine wpList_store_M _ rfl _ _ _ rfl bm k _ c wc.heap.size rfl hmB (by omega) (by omega) rfl rfl ?_; intro w2 hM2 hg2)
              | fail)
            rw [← hob] at hg2 hmB
            go_meet
            case rel =>
              have hT0 : ∀ l, l < 16 → T c l = 0 := fun l hl => by have := le_bins (T c) hl; omega
              have hb0 : bins (T c) = 0 := by omega
              refine ⟨wc.heap.size, .slice none 0 0, 0, 0, rfl, ?_, ?_, fun l _ h2 => hT0 l h2, .inl rfl, fun l _ h2 => hT0 l h2⟩
              · exact (hKA.grown hg1 (fun b e => by cases e)).grown hg2 (fun b e => by cases e; exact ⟨hA.blo, hmB.not33⟩)
              · have hMid := hA.fresh (c := c) hloA hrB hg1 hM2 (fun x => rfl) hg2
                rw [hb0]
                exact hMid
        case rest =>
          obtain ⟨g, v, n, tp, rfl, hKM, hM, hz, htp, hover⟩ := hcut
          clear hlook c0 hrow hA hKA h ho
          obtain ⟨va, cap, rfl, -⟩ := own_form hM.own
          have cs1 : wc.cell? ⟨g, 1, none⟩ = some (.slice va n cap) := hM.row.cell (i := 1) (by omega)
          have hloM : lo ≤ wc.heap.size := Nat.le_trans hlo hKM.size
          have hn16 := hM.n16
          go_upto_if 42 with fail
          go_cut [] (fun wx => ∃ v n, Kp lo w wx ∧ Mid wx lo (k + 1) tb bm T G V N top c g v n tp (bins (T c)) (T c) ∧ l < n ∧ (tp = 0 ∨ (tp < n ∧ 0 < T c tp)))
          case first =>
            by_cases hln : (n : Int) ≤ l
            · obtain ⟨m, hm⟩ : ∃ m, l + 1 = n + m := ⟨l + 1 - n, by omega⟩
              have z1 : IntKind.i64.wrap ((l : Int) + 1) = ((n + m : Nat) : Int) := by rw [IntKind.wrap_i64]; omega
              have z2 : IntKind.i64.wrap ((n : Int) + (m : Int) - (n : Int)) = (m : Int) := by rw [IntKind.wrap_i64]; omega
              have hgl : g < wc.heap.size := hM.row.lt
              have hgn : some g ≠ (Value.slice va n cap).ownBlock := (row_ne_own hM.row (by decide) hM.own).symm
              have hgf : wc.frozen? ⟨g, 1, none⟩ = false := hM.row.frozen 1
              obtain ⟨i0, hi0, hz0, hz1, hz2⟩ := info_parts Yba.info3
              go_wp2_with fail
              go_region_law ((refine step_append_zeros _ (by rfl) _ _ _ _ (by rfl) lo 3 i0 .i64 8 Yba.underlying45 Yba.underlying3 hi0 hz0 hz1 hz2 (.slice va n cap) n _ (by simp [Act.eval, Act.put]) hM.drew.own m (by simp [Act.eval, Act.put]) (by omega) (by unfold maxLen; omega) (by omega) hloM wc.heap.size rfl ?_; intro g' cap' w1 hown1 hgrow hat hlt; have fz : w1.frozen? ⟨g, 1, none⟩ = false := (by rw [hgrow.frozen_far _ hgl hgn]; exact hgf); have cz : w1.cell? ⟨g, 1, none⟩ = some (.slice va n cap) := (by rw [hgrow.cell_far _ hgl hgn]; exact cs1)))
              all_goals go_wp2_with fail
              all_goals go_meet
              all_goals
                refine ⟨_, n + m, ?_, hM.drew.grow (by omega) hown1 hz hgrow hat, by omega, htp.imp id (fun h => ⟨by omega, h.2⟩)⟩
                exact ((hKM.grown (grown_drew wc) (fun b e => by cases e)).grown hgrow (fun b e => own_not33 hM.own e)).grown (grown_set _ _ _) (fun b e => by cases e; exact ⟨hM.glo, not33 (hM.drew.row.of_block (hgrow.block _ hgl hgn)) (by decide)⟩)
            · go_wp2_with fail
              go_meet
              case rel => exact ⟨.slice va n cap, n, hKM, hM, by omega, htp⟩
          case rest =>
            obtain ⟨v, n, hKC, hC, hln, htp⟩ := hcut
            clear hM hKM cs1 hz
            obtain ⟨va, cap, rfl, hform⟩ := own_form hC.own
            obtain ⟨b, rfl, hvb, hcell, hfroz⟩ := hform (by omega)
            have hxb := le_bins (T c) hl
            have hn16 := hC.n16
            obtain ⟨B, hB⟩ : ∃ B, bins (T c) = B := ⟨_, rfl⟩
            obtain ⟨B1, hB1⟩ : ∃ B1, B + 1 = B1 := ⟨_, rfl⟩
            obtain ⟨x, hx⟩ : ∃ x, T c l = x := ⟨_, rfl⟩
            obtain ⟨x1, hx1⟩ : ∃ x1, x + 1 = x1 := ⟨_, rfl⟩
            have zb : IntKind.i64.wrap ((B : Int) + 1) = (B1 : Int) := by rw [IntKind.wrap_i64]; omega
            have zx : IntKind.i64.wrap ((x : Int) + 1) = (x1 : Int) := by rw [IntKind.wrap_i64]; omega
            have zB0 : ((B1 : Int) == 0) = false := by simp; omega
            have hl0 : (l : Int) < (n : Int) := by omega
            rw [hB] at hC
            have hC1 := hC.put 0 (.int .i64 (B1 : Int)) (s' := B1) (tp' := tp) (fun j hj => by unfold lcRow; rcases (by omega : j = 0 ∨ j = 1 ∨ j = 2) with rfl | rfl | rfl <;> simp)
            have hC2 := hC1.putRow hvb l x1
            have hC3 := fun tm : Nat => hC2.put 2 (.int .i64 (tm : Int)) (s' := B1) (tp' := tm) (fun j hj => by unfold lcRow; rcases (by omega : j = 0 ∨ j = 1 ∨ j = 2) with rfl | rfl | rfl <;> simp)
            have a0 : wc.cell? ⟨g, 0, none⟩ = some (.int .i64 (B : Int)) := hC.row.cell (i := 0) (by omega)
            have a0f : wc.frozen? ⟨g, 0, none⟩ = false := hC.row.frozen 0
            have a1 : (wc.setCell ⟨g, 0, none⟩ (.int .i64 (B1 : Int))).cell? ⟨g, 1, none⟩ = some (.slice (some ⟨b, 0, none⟩) n cap) := hC1.row.cell (i := 1) (by omega)
            have a2 : (wc.setCell ⟨g, 0, none⟩ (.int .i64 (B1 : Int))).cell? ⟨b, l, none⟩ = some (.int .i64 (x : Int)) := by
              have := hcell l hln
              rw [hx] at this
              rw [← this]
              exact World.cell?_of_block (blk_setCell_other _ _ _ _ (fun e => row_ne_own hC.row (by decide) hC.own (hvb.trans (congrArg some e))))
            have a2f : (wc.setCell ⟨g, 0, none⟩ (.int .i64 (B1 : Int))).frozen? ⟨b, l, none⟩ = false := by
              rw [← hfroz l]
              exact World.frozen?_of_block (blk_setCell_other _ _ _ _ (fun e => row_ne_own hC.row (by decide) hC.own (hvb.trans (congrArg some e))))
            have a3 : ((wc.setCell ⟨g, 0, none⟩ (.int .i64 (B1 : Int))).setCell ⟨b, l, none⟩ (.int .i64 (x1 : Int))).cell? ⟨g, 0, none⟩ = some (.int .i64 (B1 : Int)) := hC2.row.cell (i := 0) (by omega)
            have a4 : ((wc.setCell ⟨g, 0, none⟩ (.int .i64 (B1 : Int))).setCell ⟨b, l, none⟩ (.int .i64 (x1 : Int))).cell? ⟨g, 2, none⟩ = some (.int .i64 (tp : Int)) := hC2.row.cell (i := 2) (by omega)
            have a4f : ((wc.setCell ⟨g, 0, none⟩ (.int .i64 (B1 : Int))).setCell ⟨b, l, none⟩ (.int .i64 (x1 : Int))).frozen? ⟨g, 2, none⟩ = false := hC2.row.frozen 2
            have hK3 : ∀ tm : Nat, Kp lo w (((wc.setCell ⟨g, 0, none⟩ (.int .i64 (B1 : Int))).setCell ⟨b, l, none⟩ (.int .i64 (x1 : Int))).setCell ⟨g, 2, none⟩ (.int .i64 (tm : Int))) := fun tm =>
              ((hKC.grown (grown_set _ _ _) (fun b' e => by cases e; exact ⟨hC.glo, not33 hC.row (by decide)⟩)).grown (grown_set _ _ _) (fun b' e => by cases e; exact own_not33 hC1.own hvb)).grown (grown_set _ _ _) (fun b' e => by cases e; exact ⟨hC.glo, not33 hC2.row (by decide)⟩)
            have hbs := bins_set (T c) hl x1
            have hfin : ∀ tm : Nat, tm = max tp l → ∃ G' V' N' top', Tal (((wc.setCell ⟨g, 0, none⟩ (.int .i64 (B1 : Int))).setCell ⟨b, l, none⟩ (.int .i64 (x1 : Int))).setCell ⟨g, 2, none⟩ (.int .i64 (tm : Int))) lo (k + 1) tb bm T' G' V' N' top' := fun tm htm => by
              rw [← hT', hx, hx1]
              refine ⟨_, _, _, _, (hC3 tm).tal hc (by omega) (by omega) (by omega) (by rcases htp with h | h <;> omega) ?_ (fun j hj hj16 => ?_)⟩
              · by_cases e : tm = l
                · simp [e]; omega
                · simp only [e, if_false]
                  have e2 : tm = tp := by omega
                  rw [e2]
                  rcases htp with h | h
                  · omega
                  · exact h.2
              · rw [if_neg (by omega)]
                exact hover j (by omega) hj16
            clear hC3 hC2 hC1 hform hcell hfroz
            go_wp2_with fail
            · go_end0
              exact ⟨rfl, hK3 l, hfin l (by omega)⟩
            · go_end0
              exact ⟨rfl, hK3 tp, hfin tp (by omega)⟩
end Go.Proofs.Ybulkbsjc
