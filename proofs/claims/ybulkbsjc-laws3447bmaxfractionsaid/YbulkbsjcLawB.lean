/-
  'LawS3447BMaxFraction': the walk.
-/
import Derived.Test.YbulkbsjcSub
namespace Go.Proofs.Ybulkbsjc
open Go.RowKit Go.Deep Go.Maps

/-- The argument: n structs of three bytes. -/
structure OpsIn (w : World) (va : Option Addr) (n ab ao : Nat) (A0 A1 A2 : Nat → Nat) : Prop where
  addr : 0 < n → va = some ⟨ab, ao, none⟩
  c0 : ∀ i, i < n → w.cell? ⟨ab, ao + i * 3, none⟩ = some (.int .u8 (A0 i))
  c1 : ∀ i, i < n → w.cell? ⟨ab, ao + i * 3 + 1, none⟩ = some (.int .u8 (A1 i))
  c2 : ∀ i, i < n → w.cell? ⟨ab, ao + i * 3 + 2, none⟩ = some (.int .u8 (A2 i))
  b : ∀ i, i < n → A0 i ≤ 255 ∧ A1 i ≤ 255 ∧ A2 i ≤ 255

def cntRow (T : Nat → Nat → Nat) (i : Nat) : Value := .int .i64 (T (i / 16) (i % 16))

theorem bins_zero : bins (fun _ => 0) = 0 := by decide

theorem Tal.made {w : World} {lo tb bm : Nat} (h1 : lo ≤ tb) (h2 : lo ≤ bm) (h3 : ∃ ov : Int, w.rowIs tb 31 2 (fun j => if j = 0 then .map (some bm) else .int .i64 ov)) (h4 : MapIs w bm 0 (fun _ => none)) :
    Tal w lo 0 tb bm (fun _ _ => 0) (fun _ => 0) (fun _ => .slice none 0 0) (fun _ => 0) (fun _ => 0) where
  tlo := h1
  blo := h2
  htb := h3
  map := h4.congr (fun x => by simp [bins_zero])
  rng := fun x hx => by simp [bins_zero] at hx
  bd := fun x => by simp [bins_zero]
  lc := fun x hx => by simp [bins_zero] at hx
  apart := fun x y hx => by simp [bins_zero] at hx

theorem cnt_set {w : World} {cb : Nat} {T : Nat → Nat → Nat} (h : w.rowIs cb 33 144 (cntRow T)) {c l x : Nat} (hl : l < 16) : (w.setCell ⟨cb, c * 16 + l, none⟩ (.int .i64 x)).rowIs cb 33 144 (cntRow (upd T c l x)) :=
  (h.set (c * 16 + l) _).congr (fun j hj => by
    unfold cntRow upd
    by_cases e : j = c * 16 + l
    · subst e
      rw [if_pos rfl, if_pos (by omega)]
      simp only [if_pos (show (c * 16 + l) % 16 = l by omega)]
    · rw [if_neg e]
      by_cases e1 : j / 16 = c
      · rw [if_pos e1]
        simp only [if_neg (show ¬ j % 16 = l by omega), e1]
      · rw [if_neg e1])

theorem law_long (w : World) (va : Option Addr) (n cap : Nat) (hn : 1024 < n) :
    Calls Yba.prog 5 #[.slice va n cap] w fun e w' => e = .returned (.bool true) ∧ Below w.heap.size w w' := by
  have h0 : (1024 : Int) < n := by omega
  go_enter Yba.func5, Yba.ntmps5
  go_wp2
  go_ret
  exact ⟨rfl, Below.refl _ _⟩

theorem Tal.set33 {w : World} {lo k tb bm cb m : Nat} {T : Nat → Nat → Nat} {G : Nat → Nat} {V : Nat → Value} {N top : Nat → Nat} {f : Nat → Value} (h : Tal w lo k tb bm T G V N top) (hr : w.rowIs cb 33 m f) (i : Nat) (v : Value) : Tal (w.setCell ⟨cb, i, none⟩ v).drew lo k tb bm T G V N top := by
  have hd := h
  obtain ⟨ov, hrow⟩ := hd.htb
  refine Tal.heap (hd.heap (grown_set w ⟨cb, i, none⟩ v) (fun b e => ?_)) (grown_drew _) (fun b e => by cases e)
  cases e
  exact ⟨(row_ne_row hrow hr (by decide)).symm, (hd.map.ne_row hr).symm, fun c hc => ⟨(row_ne_row (hd.lc c hc).row hr (by decide)).symm, row_ne_own hr (by decide) (hd.lc c hc).own⟩⟩

theorem Tal.mono {w : World} {lo k k' tb bm : Nat} {T : Nat → Nat → Nat} {G : Nat → Nat} {V : Nat → Value} {N top : Nat → Nat} (h : Tal w lo k tb bm T G V N top) (hk : k ≤ k') : Tal w lo k' tb bm T G V N top :=
  ⟨h.tlo, h.blo, h.htb, h.map.mono hk, h.rng, fun c => Nat.le_trans (h.bd c) hk, h.lc, h.apart⟩

theorem below_step {lo : Nat} {w w0 w1 : World} (h : Below lo w w0) (hK : Kp lo w0 w1) (hlo : lo ≤ w0.heap.size) {a : Addr} (ha : lo ≤ a.block) (v : Value) : Below lo w (w1.setCell a v).drew :=
  have hb := hK.below hlo
  ⟨hb.os.trans h.os, hb.tape.trans h.tape, hb.output.trans h.output, by have h1 := h.size; have h2 := hb.size; show _ ≤ (w1.setCell a v).heap.size; rw [nblk_setCell]; omega, fun k hk => by
    show (w1.setCell a v).heap[k]? = _
    rw [blk_setCell_other _ _ _ _ (by omega), hb.block k hk, h.block k hk]⟩

theorem upd_sub {T : Nat → Nat → Nat} {c l t t1 : Nat} (h : T c l = t) (h1 : t - 1 = t1) : upd T c l (T c l - 1) = upd T c l t1 := by rw [h, h1]
theorem upd_add {T : Nat → Nat → Nat} {c l t t1 : Nat} (h : T c l = t) (h1 : t + 1 = t1) : upd T c l (T c l + 1) = upd T c l t1 := by rw [h, h1]

def lastP (f : Nat → Nat) : Nat → Int
  | 0 => -1
  | l + 1 => if 0 < f l then (l : Int) else lastP f l

theorem lastP_none {f : Nat → Nat} : ∀ n, (∀ l, l < n → f l = 0) → lastP f n = -1
  | 0, _ => rfl
  | n + 1, h => by unfold lastP; rw [if_neg (by rw [h n (by omega)]; omega), lastP_none n (fun l hl => h l (by omega))]

theorem lastP_top {f : Nat → Nat} {tp : Nat} (h0 : 0 < f tp) : ∀ n, tp < n → (∀ l, tp < l → l < n → f l = 0) → lastP f n = tp
  | 0, h, _ => by omega
  | n + 1, h, ho => by
    unfold lastP
    by_cases e : n = tp
    · subst e; rw [if_pos h0]
    · rw [if_neg (by rw [ho n (by omega) (by omega)]; omega), lastP_top h0 n (by omega) (fun l h1 h2 => ho l h1 (by omega))]

theorem zero33 (w : World) : (zeroValue 33).run Yba.prog w = .ok (.agg (Array.replicate 144 (.int .i64 0))) w := by kernel_rfl

set_option maxRecDepth 100000 in
set_option maxHeartbeats 2000000 in
theorem law_walk (w : World) (va : Option Addr) (n cap ab ao : Nat) (A0 A1 A2 : Nat → Nat) (hO : OpsIn w va n ab ao A0 A1 A2) (hn : n ≤ 1024) :
    Calls Yba.prog 5 #[.slice va n cap] w fun e w' => e = .returned (.bool true) ∧ Below w.heap.size w w' := by
  have h0 : ¬ (1024 : Int) < n := by omega
  have hmm := @run_makeMap Yba.prog
  have hz33 := zero33
  obtain ⟨zs, hzs⟩ : ∃ zs : Array Value, Array.replicate 144 (.int .i64 0) = zs := ⟨_, rfl⟩
  rw [hzs] at hz33
  obtain ⟨lo, hlo⟩ : ∃ lo, w.heap.size = lo := ⟨_, rfl⟩
  rw [hlo]
  go_enter Yba.func5, Yba.ntmps5
  go_wp2_with fail
  go_loopg [5] n (fun q s5 wr => ∃ (m : Nat) (T : Nat → Nat → Nat) (G : Nat → Nat) (V : Nat → Value) (N top : Nat → Nat), m ≤ n ∧ q = n - m ∧ s5 = .int .i64 m ∧ Tal wr lo m (lo + 1) lo T G V N top ∧ wr.rowIs (lo + 1 + 1) 33 144 (cntRow T) ∧ Below lo w wr)
  case atStart =>
    have e1 : (w.alloc (.map #[] 0)).heap.size = lo + 1 := by rw [nblk_alloc, hlo]
    have e2 : ((w.alloc (.map #[] 0)).alloc (.cells #[.map (some lo), .int .i64 0] 31)).heap.size = lo + 1 + 1 := by rw [nblk_alloc, e1]
    have hr1 := World.rowIs_alloc (w.alloc (.map #[] 0)) #[.map (some lo), .int .i64 0] 31 (fun j => if j = 0 then .map (some lo) else .int .i64 0) (fun i hi => by rcases (by simp at hi; omega : i = 0 ∨ i = 1) with rfl | rfl <;> rfl)
    rw [e1] at hr1
    have hm := MapIs.made w
    rw [hlo] at hm
    have hr2 := World.rowIs_alloc ((w.alloc (.map #[] 0)).alloc (.cells #[.map (some lo), .int .i64 0] 31)) zs 33 (cntRow (fun _ _ => 0)) (fun i hi => by rw [← hzs] at hi ⊢; simp at hi; simp [hi, cntRow])
    rw [e2, show zs.size = 144 by rw [← hzs]; simp] at hr2
    refine ⟨0, _, _, _, _, _, Nat.zero_le _, rfl, rfl, Tal.made (by omega) (Nat.le_refl _) ⟨0, hr1.alloc _⟩ ?_, hr2, ?_⟩
    · exact hm.of_block (by rw [blk_alloc_lt _ _ _ (by omega), blk_alloc_lt _ _ _ (by omega)])
    · exact (((Below.refl lo w).alloc (by omega) _).alloc (by omega) _).alloc (by omega) _
  case round =>
    clear hmm hz33 hzs
    obtain ⟨m, T, G, V, N, top, hmn, hq, rfl, hT, hcnt, hbel⟩ := hrel
    by_cases hlt : m < n
    · have hltz : (m : Int) < n := by omega
      obtain rfl := hO.addr (by omega)
      have a0 := cell_later (hlo ▸ hbel) (hO.c0 m hlt)
      have a1 := cell_later (hlo ▸ hbel) (hO.c1 m hlt)
      have a2 := cell_later (hlo ▸ hbel) (hO.c2 m hlt)
      obtain ⟨b0, b1, b2⟩ := hO.b m hlt
      obtain ⟨x0, hx0⟩ : ∃ x0, A0 m = x0 := ⟨_, rfl⟩
      obtain ⟨x1, hx1⟩ : ∃ x1, A1 m = x1 := ⟨_, rfl⟩
      obtain ⟨x2, hx2⟩ : ∃ x2, A2 m = x2 := ⟨_, rfl⟩
      rw [hx0] at a0 b0; rw [hx1] at a1 b1; rw [hx2] at a2 b2
      clear hx0 hx1 hx2
      obtain ⟨l, hl⟩ : ∃ l, x1 % 16 = l := ⟨_, rfl⟩
      obtain ⟨c0, hc0⟩ : ∃ c0, x2 % 8 = c0 := ⟨_, rfl⟩
      obtain ⟨c, hc⟩ : ∃ c, c0 + 1 = c := ⟨_, rfl⟩
      have z1 : (x1 : Int) % 16 = (l : Int) := by omega
      have z2 : (x2 : Int) % 8 = (c0 : Int) := by omega
      have z3 : (c0 : Int) + 1 = (c : Int) := by omega
      have hl16 : (l : Int) < 16 := by omega
      have hc9 : (c : Int) < 9 := by omega
      have cT : wr.cell? ⟨lo + 1 + 1, c * 16 + l, none⟩ = some (.int .i64 (T c l)) := by
        rw [hcnt.cell (by omega)]; unfold cntRow
        rw [show (c * 16 + l) / 16 = c by omega, show (c * 16 + l) % 16 = l by omega]
      have hbig : lo + 1 + 1 < wr.heap.size := hcnt.lt
      have cT' : (wr.alloc (.cells #[.int .u8 x0, .int .u8 x1, .int .u8 x2] 35)).cell? ⟨lo + 1 + 1, c * 16 + l, none⟩ = some (.int .i64 (T c l)) := by rw [← cT]; exact World.cell?_of_block (blk_alloc_lt _ _ _ hbig)
      have hTx : Tal (wr.alloc (.cells #[.int .u8 x0, .int .u8 x1, .int .u8 x2] 35)) lo m (lo + 1) lo T G V N top := hT.heap (World.grownBy_alloc _ _ none) (fun b e => by cases e)
      have hcx : (wr.alloc (.cells #[.int .u8 x0, .int .u8 x1, .int .u8 x2] 35)).rowIs (lo + 1 + 1) 33 144 (cntRow T) := hcnt.alloc _
      have hbx : Below lo w (wr.alloc (.cells #[.int .u8 x0, .int .u8 x1, .int .u8 x2] 35)) := hbel.alloc (by omega) _
      obtain ⟨t, ht⟩ : ∃ t, T c l = t := ⟨_, rfl⟩
      rw [ht] at cT cT'
      have htm : t ≤ m := by
        have h1 := hT.bd c
        have h2 := le_bins (T c) (show l < 16 by omega)
        omega
      by_cases hgo : x0 % 3 = 0 ∧ 0 < t
      · have z4 : ((x0 : Int) % 3 == 0) = true := by simp; omega
        have hpos : (0 : Int) < t := by omega
        go_wp2_with fail
        refine (count_sub _ lo m (lo + 1) lo T G V N top hTx (by omega) c l (by omega) (by omega) (by omega)).mono ?_
        rintro e w1 ⟨rfl, hK, G', V', N', top', hT1⟩
        obtain ⟨t1, ht1⟩ : ∃ t1, t - 1 = t1 := ⟨_, rfl⟩
        rw [upd_sub ht ht1] at hT1
        have zt : IntKind.i64.wrap ((t : Int) - 1) = (t1 : Int) := by rw [IntKind.wrap_i64]; omega
        have hc1 := hK.row33 hcx
        have d1 : w1.cell? ⟨lo + 1 + 1, c * 16 + l, none⟩ = some (.int .i64 (t : Int)) := by
          rw [hc1.cell (by omega)]; unfold cntRow
          rw [show (c * 16 + l) / 16 = c by omega, show (c * 16 + l) % 16 = l by omega, ht]
        have d1f : w1.frozen? ⟨lo + 1 + 1, c * 16 + l, none⟩ = false := hc1.frozen _
        go_wp2_with fail
        go_region
        all_goals go_wp2_with fail
        all_goals
          go_roundg (n - (m + 1))
          case measure => go_light; omega
          case rel =>
            go_light
            refine ⟨m + 1, _, G', V', N', top', by omega, rfl, by go_num, (hT1.mono (Nat.le_succ m)).set33 hc1 _ _, (cnt_set hc1 (by omega)).drew, below_step hbx hK (by rw [nblk_alloc]; omega) (by show lo ≤ lo + 1 + 1; omega) _⟩
      · by_cases h3 : x0 % 3 = 0
        · skip
          have z4 : ((x0 : Int) % 3 == 0) = true := by simp; omega
          have hpos : ¬ (0 : Int) < t := by omega
          go_wp2_with fail
          refine (count_add _ lo m (lo + 1) lo T G V N top hTx (by rw [nblk_alloc]; omega) (by omega) c l (by omega) (by omega)).mono ?_
          rintro e w1 ⟨rfl, hK, G', V', N', top', hT1⟩
          obtain ⟨t1, ht1⟩ : ∃ t1, t + 1 = t1 := ⟨_, rfl⟩
          rw [upd_add ht ht1] at hT1
          have zt : IntKind.i64.wrap ((t : Int) + 1) = (t1 : Int) := by rw [IntKind.wrap_i64]; omega
          have hc1 := hK.row33 hcx
          have d1 : w1.cell? ⟨lo + 1 + 1, c * 16 + l, none⟩ = some (.int .i64 (t : Int)) := by
            rw [hc1.cell (by omega)]; unfold cntRow
            rw [show (c * 16 + l) / 16 = c by omega, show (c * 16 + l) % 16 = l by omega, ht]
          have d1f : w1.frozen? ⟨lo + 1 + 1, c * 16 + l, none⟩ = false := hc1.frozen _
          go_wp2_with fail
          go_region
          all_goals go_wp2_with fail
          all_goals
            go_roundg (n - (m + 1))
            case measure => go_light; omega
            case rel =>
              go_light
              refine ⟨m + 1, _, G', V', N', top', by omega, rfl, by go_num, hT1.set33 hc1 _ _, (cnt_set hc1 (by omega)).drew, below_step hbx hK (by rw [nblk_alloc]; omega) (by show lo ≤ lo + 1 + 1; omega) _⟩
        · skip
          have z4 : ((x0 : Int) % 3 == 0) = false := by simp; omega
          go_wp2_with fail
          refine (count_add _ lo m (lo + 1) lo T G V N top hTx (by rw [nblk_alloc]; omega) (by omega) c l (by omega) (by omega)).mono ?_
          rintro e w1 ⟨rfl, hK, G', V', N', top', hT1⟩
          obtain ⟨t1, ht1⟩ : ∃ t1, t + 1 = t1 := ⟨_, rfl⟩
          rw [upd_add ht ht1] at hT1
          have zt : IntKind.i64.wrap ((t : Int) + 1) = (t1 : Int) := by rw [IntKind.wrap_i64]; omega
          have hc1 := hK.row33 hcx
          have d1 : w1.cell? ⟨lo + 1 + 1, c * 16 + l, none⟩ = some (.int .i64 (t : Int)) := by
            rw [hc1.cell (by omega)]; unfold cntRow
            rw [show (c * 16 + l) / 16 = c by omega, show (c * 16 + l) % 16 = l by omega, ht]
          have d1f : w1.frozen? ⟨lo + 1 + 1, c * 16 + l, none⟩ = false := hc1.frozen _
          go_wp2_with fail
          go_region
          all_goals go_wp2_with fail
          all_goals
            go_roundg (n - (m + 1))
            case measure => go_light; omega
            case rel =>
              go_light
              refine ⟨m + 1, _, G', V', N', top', by omega, rfl, by go_num, hT1.set33 hc1 _ _, (cnt_set hc1 (by omega)).drew, below_step hbx hK (by rw [nblk_alloc]; omega) (by show lo ≤ lo + 1 + 1; omega) _⟩
    · have hmm : m = n := by omega
      subst hmm
      go_wp2_with fail
      refine (max_any _ lo m (lo + 1) lo T G V N top hT).mono ?_
      rintro e w1 ⟨ld, cp, rfl, hbest, hld, hcp, hgr⟩
      have hc1 : w1.rowIs (lo + 1 + 1) 33 144 (cntRow T) := hcnt.of_block (hgr.block _ hcnt.lt (by simp))
      have hb1 : Below lo w w1 := hbel.grown hgr (by have := hcnt.lt; omega) (fun k hk => by cases hk)
      go_wp2_with fail
      have hrng := hT.rng
      have hlast : ∀ c, (0 < bins (T c) → lastP (T c) 16 = (top c : Int) ∧ top c < 16) ∧ (¬ 0 < bins (T c) → lastP (T c) 16 = -1) := fun c =>
        ⟨fun hc => by
          have hL := hT.lc c hc
          have h1 := hL.top
          have h2 := hL.n16
          exact ⟨lastP_top hL.pos 16 (by omega) hL.over, by omega⟩, fun hc => lastP_none 16 (fun l hl => by have := le_bins (T c) hl; omega)⟩
      have hcell : ∀ c l, c ≤ 8 → l < 16 → w1.cell? ⟨lo + 1 + 1, c * 16 + l, none⟩ = some (.int .i64 (T c l)) := fun c l hc hl => by
        rw [hc1.cell (by omega)]; unfold cntRow
        rw [show (c * 16 + l) / 16 = c by omega, show (c * 16 + l) % 16 = l by omega]
      clear hT hcnt hc1 hbel hgr
      go_loopg [11, 12, 13] 8 (fun q s11 s12 s13 wx => ∃ (c : Nat) (sb fb : Bool), 1 ≤ c ∧ c ≤ 9 ∧ q = 9 - c ∧ s11 = .bool sb ∧ s12 = .bool fb ∧ s13 = .int .i64 c ∧ wx = w1 ∧ (sb = true ↔ ∃ x, x < c ∧ 0 < bins (T x)) ∧ (fb = true ↔ ∃ x, x < c ∧ 0 < bins (T x) ∧ x = cp))
      case atStart =>
        refine ⟨1, false, false, by omega, by omega, rfl, rfl, rfl, rfl, rfl, ?_, ?_⟩
        · simp only [Bool.false_eq_true, false_iff]; rintro ⟨x, hx, hp⟩; have := hrng x hp; omega
        · simp only [Bool.false_eq_true, false_iff]; rintro ⟨x, hx, hp, _⟩; have := hrng x hp; omega
      case round =>
        obtain ⟨c, sb, fb, hc1, hc9, hq2, rfl, rfl, rfl, rfl, hsb, hfb⟩ := hrel
        by_cases hc8 : c ≤ 8
        · have hc8z : (c : Int) ≤ 8 := by omega
          have hc9z : (c : Int) < 9 := by omega
          go_wp2_with fail
          go_loopg [14, 15] 16 (fun q s14 s15 wx => ∃ l : Nat, l ≤ 16 ∧ q = 16 - l ∧ s14 = .int .i64 (lastP (T c) l) ∧ s15 = .int .i64 l ∧ wx = wr)
          case atStart => exact ⟨0, by omega, rfl, rfl, rfl, rfl⟩
          case round =>
            obtain ⟨l, hl, hq3, rfl, rfl, rfl⟩ := hrel
            by_cases hl16 : l < 16
            · have hl16z : (l : Int) < 16 := by omega
              have d1 := hcell c l hc8 hl16
              have hstep : lastP (T c) (l + 1) = if 0 < T c l then (l : Int) else lastP (T c) l := rfl
              obtain ⟨t, ht⟩ : ∃ t, T c l = t := ⟨_, rfl⟩
              obtain ⟨tl, htl⟩ : ∃ tl, lastP (T c) l = tl := ⟨_, rfl⟩
              rw [ht, htl] at hstep
              rw [ht] at d1
              rw [htl]
              by_cases htp : (0 : Int) < t
              · rw [if_pos (by omega)] at hstep
                go_wp2_with fail
                go_roundg (16 - (l + 1))
                case measure => go_light; omega
                case rel => go_light; exact ⟨l + 1, by omega, rfl, by rw [hstep], by go_num, rfl⟩
              · rw [if_neg (by omega)] at hstep
                go_wp2_with fail
                go_roundg (16 - (l + 1))
                case measure => go_light; omega
                case rel => go_light; exact ⟨l + 1, by omega, rfl, by rw [hstep], by go_num, rfl⟩
            · have hll : l = 16 := by omega
              subst hll
              by_cases hp : 0 < bins (T c)
              · obtain ⟨hlt, ht16⟩ := (hlast c).1 hp
                rw [hlt]
                obtain ⟨tc, htc⟩ : ∃ tc, top c = tc := ⟨_, rfl⟩
                rw [htc] at ht16 ⊢
                have hbest2 : 0 < bins (T cp) ∧ ld = top cp ∧ ∀ x, 0 < bins (T x) → top x * cp ≤ ld * x := by
                  rcases hbest with ⟨-, -, h1⟩ | h1
                  · exact absurd hp (h1 c)
                  · exact h1
                obtain ⟨hb1', hb2', hb3'⟩ := hbest2
                have hle := hb3' c hp
                rw [htc] at hle
                obtain ⟨p1, hp1⟩ : ∃ p1, tc * cp = p1 := ⟨_, rfl⟩
                obtain ⟨p2, hp2⟩ : ∃ p2, ld * c = p2 := ⟨_, rfl⟩
                rw [hp1, hp2] at hle
                have q1 : p1 ≤ 15 * 8 := by rw [← hp1]; exact Nat.mul_le_mul (by omega) hcp
                have q2 : p2 ≤ 15 * 9 := by rw [← hp2]; exact Nat.mul_le_mul (by omega) hc9
                have y1 : (tc : Int) * (cp : Int) = (p1 : Int) := by rw [← hp1, Int.natCast_mul]
                have y2 : (ld : Int) * (c : Int) = (p2 : Int) := by rw [← hp2, Int.natCast_mul]
                have y3 : ¬ (p2 : Int) < (p1 : Int) := by omega
                have hS : ∃ x, x < c + 1 ∧ 0 < bins (T x) := ⟨c, by omega, hp⟩
                by_cases hcc : c = cp
                · have y4 : ((c : Int) == (cp : Int)) = true := by simp [hcc]
                  have y5 : ((tc : Int) == (ld : Int)) = true := by simp [hb2', ← hcc, htc]
                  have hF : ∃ x, x < c + 1 ∧ 0 < bins (T x) ∧ x = cp := ⟨c, by omega, hp, hcc⟩
                  clear hcc hb2' hlast hbest hb3' hrng hcell htc hp1 hp2 hb1'
                  go_wp2_with fail
                  go_roundg (9 - (c + 1))
                  case measure => go_light; clear hS hF hsb hfb; omega
                  case rel =>
                    go_light
                    exact ⟨c + 1, true, true, by omega, by omega, rfl, rfl, rfl, by go_num, rfl, ⟨fun _ => hS, fun _ => rfl⟩, ⟨fun _ => hF, fun _ => rfl⟩⟩
                · have y4 : ((c : Int) == (cp : Int)) = false := by simp; omega
                  have hF : fb = true ↔ ∃ x, x < c + 1 ∧ 0 < bins (T x) ∧ x = cp := by
                    rw [hfb]
                    exact ⟨fun ⟨x, h1, h2⟩ => ⟨x, by omega, h2⟩, fun ⟨x, h1, h2⟩ => ⟨x, by rcases (by omega : x < c ∨ x = c) with h | rfl; exact h; exact absurd h2.2 hcc, h2⟩⟩
                  clear hcc hb2' hlast hbest hb3' hrng hcell htc hp1 hp2 hb1' hfb hsb
                  go_wp2_with fail
                  go_roundg (9 - (c + 1))
                  case measure => go_light; omega
                  case rel =>
                    go_light
                    exact ⟨c + 1, true, fb, by omega, by omega, rfl, rfl, rfl, by go_num, rfl, ⟨fun _ => hS, fun _ => rfl⟩, hF⟩
              · have hlt := (hlast c).2 hp
                rw [hlt]
                go_wp2_with fail
                go_roundg (9 - (c + 1))
                case measure => go_light; clear hsb hfb; omega
                case rel =>
                  go_light
                  refine ⟨c + 1, sb, fb, by omega, by omega, rfl, rfl, rfl, by go_num, rfl, ?_, ?_⟩
                  · rw [hsb]
                    exact ⟨fun ⟨x, h1, h2⟩ => ⟨x, by omega, h2⟩, fun ⟨x, h1, h2⟩ => ⟨x, by rcases (by omega : x < c ∨ x = c) with h | rfl; exact h; exact absurd h2 hp, h2⟩⟩
                  · rw [hfb]
                    exact ⟨fun ⟨x, h1, h2⟩ => ⟨x, by omega, h2⟩, fun ⟨x, h1, h2⟩ => ⟨x, by rcases (by omega : x < c ∨ x = c) with h | rfl; exact h; exact absurd h2.1 hp, h2⟩⟩
        · have hc99 : c = 9 := by omega
          subst hc99
          cases sb
          · have hno : ∀ x, ¬ 0 < bins (T x) := fun x hx => by
              have := hrng x hx
              have h1 := hsb.2 ⟨x, by omega, hx⟩
              cases h1
            rcases hbest with ⟨rfl, rfl, -⟩ | ⟨h1, -⟩
            · clear hsb hfb hno hrng hlast hcell
              go_wp2_with fail
              go_ret
              exact ⟨rfl, hb1⟩
            · exact absurd h1 (hno cp)
          · obtain ⟨x, hx9, hx⟩ := hsb.1 rfl
            have hfb1 : fb = true := by
              rcases hbest with ⟨-, -, h1⟩ | ⟨h1, -⟩
              · exact absurd hx (h1 x)
              · have := hrng cp h1
                exact hfb.2 ⟨cp, by omega, h1, rfl⟩
            subst hfb1
            clear hsb hfb hrng hlast hcell hbest hx
            go_wp2_with fail
            go_ret
            exact ⟨rfl, hb1⟩
end Go.Proofs.Ybulkbsjc
