/-
  THE TALLY IN THE MIDST OF '(*loadTally).count': capacity c's count lies at block g, whether it was there before or not.
-/
import Derived.Test.YbulkbsjcMax
namespace Go.Proofs.Ybulkbsjc
open Go.RowKit Go.Deep Go.Maps

structure Mid (w : World) (lo k tb bm : Nat) (T : Nat → Nat → Nat) (G : Nat → Nat) (V : Nat → Value) (N top : Nat → Nat) (c g : Nat) (v : Value) (n tp s : Nat) (R : Nat → Nat) : Prop where
  tlo : lo ≤ tb
  blo : lo ≤ bm
  htb : ∃ ov : Int, w.rowIs tb 31 2 (fun j => if j = 0 then .map (some bm) else .int .i64 ov)
  map : MapIs w bm k (fun x => if x = c then some g else if 0 < bins (T x) then some (G x) else none)
  rng : ∀ x, 0 < bins (T x) → 1 ≤ x ∧ x ≤ 8
  bd : ∀ x, bins (T x) ≤ k
  glo : lo ≤ g
  row : w.rowIs g 47 3 (lcRow s v tp)
  own : w.ownsRow lo 3 1 v n (nums R n)
  n16 : n ≤ 16
  oth : ∀ x, x ≠ c → 0 < bins (T x) → Lc w lo (T x) (G x) (V x) (N x) (top x) ∧ G x ≠ g ∧ ((V x).ownBlock ≠ v.ownBlock)
  apart : ∀ x y, x ≠ c → y ≠ c → 0 < bins (T x) → 0 < bins (T y) → x ≠ y → G x ≠ G y ∧ (V x).ownBlock ≠ (V y).ownBlock

section
variable {w w' : World} {lo k tb bm : Nat} {T : Nat → Nat → Nat} {G : Nat → Nat} {V : Nat → Value} {N top : Nat → Nat} {c g : Nat} {v : Value} {n tp s : Nat} {R : Nat → Nat}

theorem Lc.some_block (h : Lc w lo R g v n tp) : ∃ b, v.ownBlock = some b := by
  rcases h.own.2 with ⟨_, h0⟩ | ⟨b, cap, cur, rfl, _⟩
  · have := h.top; omega
  · exact ⟨b, rfl⟩

/-- It was there. -/
theorem Tal.mid (h : Tal w lo k tb bm T G V N top) (hc : 0 < bins (T c)) : Mid w lo k tb bm T G V N top c (G c) (V c) (N c) (top c) (bins (T c)) (T c) where
  tlo := h.tlo
  blo := h.blo
  htb := h.htb
  map := h.map.congr (fun x => by by_cases e : x = c <;> simp [e, hc])
  rng := h.rng
  bd := h.bd
  glo := (h.lc c hc).glo
  row := (h.lc c hc).row
  own := (h.lc c hc).own
  n16 := (h.lc c hc).n16
  oth := fun x hx hp => ⟨h.lc x hp, h.apart x c hp hc hx⟩
  apart := fun x y _ _ hx hy e => h.apart x y hx hy e

/-- Everything stays while its blocks stay. -/
theorem Tal.heap (h : Tal w lo k tb bm T G V N top) {row : Option Nat} (hg : w.grownBy w' row) (hrow : ∀ b, row = some b → b ≠ tb ∧ b ≠ bm ∧ ∀ c, 0 < bins (T c) → b ≠ G c ∧ (V c).ownBlock ≠ some b) : Tal w' lo k tb bm T G V N top where
  tlo := h.tlo
  blo := h.blo
  htb := by obtain ⟨ov, hr⟩ := h.htb; exact ⟨ov, hr.of_block (hg.block _ hr.lt (fun e => (hrow _ e.symm).1 rfl))⟩
  map := h.map.of_block (hg.block _ h.map.lt (fun e => (hrow _ e.symm).2.1 rfl))
  rng := h.rng
  bd := h.bd
  lc := fun c hc => (h.lc c hc).of_blocks (hg.block _ (h.lc c hc).row.lt (fun e => ((hrow _ e.symm).2.2 c hc).1 rfl)) (fun b hb => hg.block _ ((h.lc c hc).own_lt b hb) (fun e => ((hrow _ e.symm).2.2 c hc).2 hb))
  apart := h.apart

/-- The head's second cell is written. -/
theorem Tal.over (h : Tal w lo k tb bm T G V N top) (x : Int) : Tal (w.setCell ⟨tb, 1, none⟩ (.int .i64 x)) lo k tb bm T G V N top := by
  obtain ⟨ov, hr⟩ := h.htb
  have hg := grown_set w ⟨tb, 1, none⟩ (.int .i64 x)
  exact {
    tlo := h.tlo
    blo := h.blo
    htb := ⟨x, (hr.set 1 _).congr (fun i hi => by rcases (by omega : i = 0 ∨ i = 1) with rfl | rfl <;> simp)⟩
    map := h.map.of_block (hg.block _ h.map.lt (fun e => h.map.ne_row hr (Option.some.inj e)))
    rng := h.rng
    bd := h.bd
    lc := fun c hc => (h.lc c hc).of_blocks (hg.block _ (h.lc c hc).row.lt (fun e => row_ne_row (h.lc c hc).row hr (by decide) (Option.some.inj e)))
      (fun b hb => hg.block _ ((h.lc c hc).own_lt b hb) (fun e => row_ne_own hr (by decide) (h.lc c hc).own (hb.trans e)))
    apart := h.apart }

/-- It was not there: its block is new, and the map leads to it. -/
theorem Tal.fresh (h : Tal w lo k tb bm T G V N top) (hlo : lo ≤ w.heap.size) {w1 : World} {M : Nat → Option Nat} (hr : w1.rowIs w.heap.size 47 3 (lcRow 0 (.slice none 0 0) 0)) (hg1 : w.grownBy w1 none)
    (hM : MapIs w' bm (k + 1) M) (hM' : ∀ x, M x = if x = c then some w.heap.size else if 0 < bins (T x) then some (G x) else none) (hg2 : w1.grownBy w' (some bm)) :
    Mid w' lo (k + 1) tb bm T G V N top c w.heap.size (.slice none 0 0) 0 0 0 (T c) := by
  have hT1 : Tal w1 lo k tb bm T G V N top := h.heap hg1 (fun b e => by cases e)
  obtain ⟨ov, htb⟩ := hT1.htb
  exact {
    tlo := h.tlo
    blo := h.blo
    htb := ⟨ov, htb.of_block (hg2.block _ htb.lt (fun e => hT1.map.ne_row htb (Option.some.inj e).symm))⟩
    map := hM.congr hM'
    rng := h.rng
    bd := fun x => Nat.le_succ_of_le (h.bd x)
    glo := hlo
    row := hr.of_block (hg2.block _ hr.lt (fun e => hT1.map.ne_row hr (Option.some.inj e).symm))
    own := World.ownsRow_nil _ _ _ _
    n16 := by omega
    oth := fun x hx hp => by
      have hL := hT1.lc x hp
      refine ⟨hL.of_blocks (hg2.block _ hL.row.lt (fun e => hT1.map.ne_row hL.row (Option.some.inj e).symm)) (fun b hb => hg2.block _ (hL.own_lt b hb) (fun e => hT1.map.ne_own hL.own (hb.trans e))), ?_, ?_⟩
      · have := (h.lc x hp).row.lt; omega
      · obtain ⟨b, hb⟩ := hL.some_block
        rw [hb]; simp [Value.ownBlock]
    apart := fun x y _ _ hx hy e => h.apart x y hx hy e }

/-- A store into c's own struct. -/
theorem Mid.put (h : Mid w lo k tb bm T G V N top c g v n tp s R) (i : Nat) (u : Value) {s' tp' : Nat} (he : ∀ j, j < 3 → (if j = i then u else lcRow s v tp j) = lcRow s' v tp' j) :
    Mid (w.setCell ⟨g, i, none⟩ u) lo k tb bm T G V N top c g v n tp' s' R := by
  have hg := grown_set w ⟨g, i, none⟩ u
  obtain ⟨ov, htb⟩ := h.htb
  exact {
    tlo := h.tlo
    blo := h.blo
    htb := ⟨ov, htb.of_block (hg.block _ htb.lt (fun e => row_ne_row htb h.row (by decide) (Option.some.inj e)))⟩
    map := h.map.of_block (hg.block _ h.map.lt (fun e => h.map.ne_row h.row (Option.some.inj e)))
    rng := h.rng
    bd := h.bd
    glo := h.glo
    row := (h.row.set i u).congr he
    own := own_kept h.own (fun b hb => hg.block _ (h.own.lt b hb).2 (fun e => row_ne_own h.row (by decide) h.own (hb.trans e)))
    n16 := h.n16
    oth := fun x hx hp => by
      obtain ⟨h1, h2, h3⟩ := h.oth x hx hp
      exact ⟨h1.of_blocks (hg.block _ h1.row.lt (fun e => h2 (Option.some.inj e))) (fun b hb => hg.block _ (h1.own_lt b hb) (fun e => row_ne_own h.row (by decide) h1.own (hb.trans e))), h2, h3⟩
    apart := h.apart }

/-- A store into c's own row. -/
theorem Mid.putRow (h : Mid w lo k tb bm T G V N top c g v n tp s R) {b : Nat} (hb : v.ownBlock = some b) (l x : Nat) :
    Mid (w.setCell ⟨b, l, none⟩ (.int .i64 x)) lo k tb bm T G V N top c g v n tp s (fun j => if j = l then x else R j) := by
  have hg := grown_set w ⟨b, l, none⟩ (.int .i64 x)
  obtain ⟨ov, htb⟩ := h.htb
  exact {
    tlo := h.tlo
    blo := h.blo
    htb := ⟨ov, htb.of_block (hg.block _ htb.lt (fun e => row_ne_own htb (by decide) h.own (hb.trans e.symm)))⟩
    map := h.map.of_block (hg.block _ h.map.lt (fun e => h.map.ne_own h.own (hb.trans e.symm)))
    rng := h.rng
    bd := h.bd
    glo := h.glo
    row := h.row.of_block (hg.block _ h.row.lt (fun e => row_ne_own h.row (by decide) h.own (hb.trans e.symm)))
    own := own_set h.own hb l x
    n16 := h.n16
    oth := fun y hy hp => by
      obtain ⟨h1, h2, h3⟩ := h.oth y hy hp
      exact ⟨h1.of_blocks (hg.block _ h1.row.lt (fun e => row_ne_own h1.row (by decide) h.own (hb.trans e.symm))) (fun b' hb' => hg.block _ (h1.own_lt b' hb') (fun e => h3 (hb'.trans (e.trans hb.symm)))), h2, h3⟩
    apart := h.apart }

/-- The row has grown, and the struct holds it. -/
theorem Mid.grow (h : Mid w lo k tb bm T G V N top c g v n tp s R) {m g' cap : Nat} (hm : n + m ≤ 16) (hown : w'.ownsRow lo 3 1 (.slice (some ⟨g', 0, none⟩) (n + m) cap) (n + m) (nums R n ++ List.replicate m (.int .i64 0)))
    (hR : ∀ l, n ≤ l → l < 16 → R l = 0) (hg : w.grownBy w' v.ownBlock) (hat : v.ownBlock = some g' ∨ g' = w.heap.size) :
    Mid (w'.setCell ⟨g, 1, none⟩ (.slice (some ⟨g', 0, none⟩) (n + m) cap)) lo k tb bm T G V N top c g (.slice (some ⟨g', 0, none⟩) (n + m) cap) (n + m) tp s R := by
  obtain ⟨ov, htb⟩ := h.htb
  have htb1 := htb.of_block (hg.block _ htb.lt (fun e => row_ne_own htb (by decide) h.own e.symm))
  have hmap1 := h.map.of_block (hg.block _ h.map.lt (fun e => h.map.ne_own h.own e.symm))
  have hrow1 := h.row.of_block (hg.block _ h.row.lt (fun e => row_ne_own h.row (by decide) h.own e.symm))
  have hoth1 : ∀ x, x ≠ c → 0 < bins (T x) → Lc w' lo (T x) (G x) (V x) (N x) (top x) := fun x hx hp => by
    obtain ⟨h1, h2, h3⟩ := h.oth x hx hp
    exact h1.of_blocks (hg.block _ h1.row.lt (fun e => row_ne_own h1.row (by decide) h.own e.symm)) (fun b' hb' => hg.block _ (h1.own_lt b' hb') (fun e => h3 (hb'.trans e)))
  have hg2 := grown_set w' ⟨g, 1, none⟩ (.slice (some ⟨g', 0, none⟩) (n + m) cap)
  have hnum : nums R n ++ List.replicate m (.int .i64 0) = nums R (n + m) := by
    apply List.ext_getElem?
    intro j
    by_cases hj : j < n
    · rw [List.getElem?_append_left (by simpa [nums] using hj), nums_get _ _ _ hj, nums_get _ _ _ (by omega)]
    · rw [List.getElem?_append_right (by simp [nums]; omega)]
      by_cases hj2 : j < n + m
      · rw [nums_get _ _ _ hj2, hR j (by omega) (by omega)]
        simp [nums, List.getElem?_replicate]; omega
      · rw [List.getElem?_eq_none (by simp [nums]; omega), List.getElem?_eq_none (by simp only [nums, List.length_map, List.length_range]; omega)]
  rw [hnum] at hown
  exact {
    tlo := h.tlo
    blo := h.blo
    htb := ⟨ov, htb1.of_block (hg2.block _ htb1.lt (fun e => row_ne_row htb1 hrow1 (by decide) (Option.some.inj e)))⟩
    map := hmap1.of_block (hg2.block _ hmap1.lt (fun e => hmap1.ne_row hrow1 (Option.some.inj e)))
    rng := h.rng
    bd := h.bd
    glo := h.glo
    row := (hrow1.set 1 _).congr (fun j hj => by unfold lcRow; rcases (by omega : j = 0 ∨ j = 1 ∨ j = 2) with rfl | rfl | rfl <;> simp)
    own := own_kept hown (fun b hb => hg2.block _ (hown.lt b hb).2 (fun e => row_ne_own hrow1 (by decide) hown (hb.trans e)))
    n16 := hm
    oth := fun x hx hp => by
      have h1 := hoth1 x hx hp
      obtain ⟨h0, h2, h3⟩ := h.oth x hx hp
      refine ⟨h1.of_blocks (hg2.block _ h1.row.lt (fun e => h2 (Option.some.inj e))) (fun b hb => hg2.block _ (h1.own_lt b hb) (fun e => row_ne_own hrow1 (by decide) h1.own (hb.trans e))), h2, ?_⟩
      intro e
      rcases hat with hat | rfl
      · exact h3 (e.trans (by rw [hat]; rfl))
      · have : w.heap.size < w.heap.size := h0.own_lt _ e
        omega
    apart := h.apart }

/-- AT THE END: c's count stands. -/
theorem Mid.tal (h : Mid w lo k tb bm T G V N top c g v n tp s R) (hc : 1 ≤ c ∧ c ≤ 8) (hs : s = bins R) (hs0 : 0 < s) (hsk : s ≤ k) (htp : tp < n) (hpos : 0 < R tp) (hover : ∀ l, tp < l → l < 16 → R l = 0) :
    Tal w lo k tb bm (fun x => if x = c then R else T x) (fun x => if x = c then g else G x) (fun x => if x = c then v else V x) (fun x => if x = c then n else N x) (fun x => if x = c then tp else top x) where
  tlo := h.tlo
  blo := h.blo
  htb := h.htb
  map := h.map.congr (fun x => by by_cases e : x = c <;> simp [e, ← hs, hs0])
  rng := fun x hx => by
    by_cases e : x = c
    · subst e; exact hc
    · simp only [e, if_false] at hx; exact h.rng x hx
  bd := fun x => by
    by_cases e : x = c
    · simp [e, ← hs, hsk]
    · simp only [e, if_false]; exact h.bd x
  lc := fun x hx => by
    by_cases e : x = c
    · subst e
      simp only [if_true]
      exact ⟨h.glo, hs ▸ h.row, h.own, h.n16, htp, hpos, hover⟩
    · simp only [e, if_false] at hx ⊢; exact (h.oth x e hx).1
  apart := fun x y hx hy hxy => by
    by_cases ex : x = c
    · subst ex
      have ey : ¬ y = x := fun e => hxy e.symm
      simp only [ey, if_true, if_false] at hy ⊢
      exact ⟨fun e => (h.oth y ey hy).2.1 e.symm, fun e => (h.oth y ey hy).2.2 e.symm⟩
    · by_cases ey : y = c
      · subst ey
        simp only [ex, if_true, if_false] at hx ⊢
        exact (h.oth x ex hx).2
      · simp only [ex, ey, if_false] at hx hy ⊢
        exact h.apart x y ex ey hx hy hxy

/-- AT THE END: c's count has gone, and its entry with it. -/
theorem Mid.gone (h : Mid w lo k tb bm T G V N top c g v n tp s R) (hR : bins R = 0) {M : Nat → Option Nat} (hM : MapIs w' bm k M) (hM' : ∀ x, M x = if x = c then none else if x = c then some g else if 0 < bins (T x) then some (G x) else none) (hg : w.grownBy w' (some bm)) :
    Tal w' lo k tb bm (fun x => if x = c then R else T x) G V N top where
  tlo := h.tlo
  blo := h.blo
  htb := by obtain ⟨ov, htb⟩ := h.htb; exact ⟨ov, htb.of_block (hg.block _ htb.lt (fun e => h.map.ne_row htb (Option.some.inj e).symm))⟩
  map := hM.congr (fun x => by rw [hM']; by_cases e : x = c <;> simp [e, hR])
  rng := fun x hx => by
    by_cases e : x = c
    · simp [e, hR] at hx
    · simp only [e, if_false] at hx; exact h.rng x hx
  bd := fun x => by
    by_cases e : x = c
    · simp [e, hR]
    · simp only [e, if_false]; exact h.bd x
  lc := fun x hx => by
    by_cases e : x = c
    · simp [e, hR] at hx
    · simp only [e, if_false] at hx ⊢
      have h1 := (h.oth x e hx).1
      exact h1.of_blocks (hg.block _ h1.row.lt (fun e => h.map.ne_row h1.row (Option.some.inj e).symm)) (fun b hb => hg.block _ (h1.own_lt b hb) (fun e => h.map.ne_own h1.own (hb.trans e)))
  apart := fun x y hx hy hxy => by
    by_cases ex : x = c
    · simp [ex, hR] at hx
    · by_cases ey : y = c
      · simp [ey, hR] at hy
      · simp only [ex, ey, if_false] at hx hy
        exact h.apart x y ex ey hx hy hxy

theorem Mid.mono (h : Mid w lo k tb bm T G V N top c g v n tp s R) {k' : Nat} (hk : k ≤ k') : Mid w lo k' tb bm T G V N top c g v n tp s R where
  tlo := h.tlo
  blo := h.blo
  htb := h.htb
  map := h.map.mono hk
  rng := h.rng
  bd := fun x => Nat.le_trans (h.bd x) hk
  glo := h.glo
  row := h.row
  own := h.own
  n16 := h.n16
  oth := h.oth
  apart := h.apart

theorem Mid.drew (h : Mid w lo k tb bm T G V N top c g v n tp s R) : Mid w.drew lo k tb bm T G V N top c g v n tp s R where
  tlo := h.tlo
  blo := h.blo
  htb := h.htb
  map := h.map
  rng := h.rng
  bd := h.bd
  glo := h.glo
  row := h.row
  own := h.own
  n16 := h.n16
  oth := fun x hx hp => ⟨(h.oth x hx hp).1.of_blocks rfl (fun _ _ => rfl), (h.oth x hx hp).2⟩
  apart := h.apart
end
end Go.Proofs.Ybulkbsjc
