import Derived.Test.YbulkbsioNew
namespace Go.Proofs.Ybulkbsio
open Go.RowKit Go.Deep
attribute [local go_sem ↓] Go.wp_at_zero Go.wp_at_succ

/-- The argument 'rows', as it lies in memory. -/
structure RowsIn (w : World) (ra : Option Addr) (rl : Nat) (gb go : Nat) (A : Nat → Option Addr) (L C RB RO : Nat → Nat) (Z : Nat → Nat → Int) : Prop where
  adr : 0 < rl → ra = some ⟨gb, go, none⟩
  row : ∀ r, r < rl → w.cell? ⟨gb, go + r, none⟩ = some (.slice (A r) (L r) (C r))
  cel : ∀ r, r < rl → ∀ c, c < L r → A r = some ⟨RB r, RO r, none⟩ ∧ w.cell? ⟨RB r, RO r + c, none⟩ = some (.int .u64 (Z r c))
  len : rl ≤ 9223372036854775807
  lens : ∀ r, r < rl → L r ≤ 9223372036854775807

theorem RowsIn.below {w w' : World} {ra : Option Addr} {rl gb go : Nat} {A : Nat → Option Addr} {L C RB RO : Nat → Nat} {Z : Nat → Nat → Int} (h : RowsIn w ra rl gb go A L C RB RO Z) (hb : Below w.heap.size w w') : RowsIn w' ra rl gb go A L C RB RO Z :=
  ⟨h.adr, fun r hr => cell_later hb (h.row r hr), fun r hr c hc => ⟨(h.cel r hr c hc).1, cell_later hb (h.cel r hr c hc).2⟩, h.len, h.lens⟩

/-- The argument 'runs', as it lies in memory. -/
structure RunsIn (w : World) (ua : Option Addr) (ul : Nat) (ub uo : Nat) (nd fr : Nat → Int) (A : Nat → Option Addr) (L C RB RO : Nat → Nat) (Z : Nat → Nat → Int) : Prop where
  adr : 0 < ul → ua = some ⟨ub, uo, none⟩
  c0 : ∀ r, r < ul → w.cell? ⟨ub, uo + r * 3, none⟩ = some (.int .u8 (nd r))
  c1 : ∀ r, r < ul → w.cell? ⟨ub, uo + r * 3 + 1, none⟩ = some (.int .u64 (fr r))
  c2 : ∀ r, r < ul → w.cell? ⟨ub, uo + r * 3 + 2, none⟩ = some (.slice (A r) (L r) (C r))
  cel : ∀ r, r < ul → ∀ c, c < L r → A r = some ⟨RB r, RO r, none⟩ ∧ w.cell? ⟨RB r, RO r + c, none⟩ = some (.int .u64 (Z r c))
  nds : ∀ r, r < ul → 0 ≤ nd r ∧ nd r ≤ 255
  lens : ∀ r, r < ul → L r ≤ 9223372036854775807

theorem RunsIn.below {w w' : World} {ua : Option Addr} {ul ub uo : Nat} {nd fr : Nat → Int} {A : Nat → Option Addr} {L C RB RO : Nat → Nat} {Z : Nat → Nat → Int} (h : RunsIn w ua ul ub uo nd fr A L C RB RO Z) (hb : Below w.heap.size w w') : RunsIn w' ua ul ub uo nd fr A L C RB RO Z :=
  ⟨h.adr, fun r hr => cell_later hb (h.c0 r hr), fun r hr => cell_later hb (h.c1 r hr), fun r hr => cell_later hb (h.c2 r hr), fun r hr c hc => ⟨(h.cel r hr c hc).1, cell_later hb (h.cel r hr c hc).2⟩, h.nds, h.lens⟩

def bCell (rl : Nat) (L : Nat → Nat) (Z : Nat → Nat → Int) (a b : Nat) : Int := if a < rl ∧ b < L a then Z a b else 0

def bRun (nn : Nat) (nd fr : Nat → Int) (L : Nat → Nat) (Z : Nat → Nat → Int) (Bk : Nat → Nat) (k : Nat) : Rn := ⟨nd k % nn + 1, fr k, Bk k, fun j => if j < L k then Z k j else fr k⟩

def bRuns (nn : Nat) (nd fr : Nat → Int) (L : Nat → Nat) (Z : Nat → Nat → Int) (Bk : Nat → Nat) (m : Nat) : List Rn := (List.range m).map (bRun nn nd fr L Z Bk)

/-- The world while the table is built. -/
structure Bld (w wr : World) (nn : Nat) (X : Nat → Nat → Int) (v1 : Value) (rs : List Rn) : Prop where
  bel : Below w.heap.size w wr
  res : wr.heap[w.heap.size]? = some (.cells #[.slice none 0 0, .slice none 0 0] 27 (0, 0))
  tbl : wr.heap[w.heap.size + 1 + 2 + nn]? = some (.cells #[.slice (some ⟨w.heap.size + 1 + 1, 0, none⟩) nn nn, v1] 27 (0, 0))
  tab : Tab wr (fun k => w.heap.size ≤ k) nn (.slice (some ⟨w.heap.size + 1 + 1, 0, none⟩) nn nn) v1 (w.heap.size + 1 + 1) (fun i => w.heap.size + 1 + 2 + i) X rs

theorem bld_start {w w1 : World} {nn : Nat} (hbel : Below (w.alloc (.cells #[.slice none 0 0, .slice none 0 0] 27)).heap.size (w.alloc (.cells #[.slice none 0 0, .slice none 0 0] 27)) w1) (hs : w1.heap.size = w.heap.size + 1 + 2 + nn)
    (ht : Tab w1 (fun k => w.heap.size + 1 ≤ k) nn (.slice (some ⟨w.heap.size + 1 + 1, 0, none⟩) nn nn) (.slice none 0 0) (w.heap.size + 1 + 1) (fun i => w.heap.size + 1 + 2 + i) (fun _ _ => 0) []) :
    Bld w (w1.alloc (.cells #[.slice (some ⟨w.heap.size + 1 + 1, 0, none⟩) nn nn, .slice none 0 0] 27)) nn (fun _ _ => 0) (.slice none 0 0) [] where
  bel := (((Below.refl _ _).alloc (Nat.le_refl _) _).trans (hbel.mono (by simp))).alloc (by omega) _
  res := by
    rw [blk_alloc_lt _ _ _ (by omega), hbel.block _ (by simp), blk_alloc_new]
  tbl := by
    rw [← hs, blk_alloc_new]
  tab := by
    have h := (ht.alloc (.cells #[.slice (some ⟨w.heap.size + 1 + 1, 0, none⟩) nn nn, .slice none 0 0] 27)).mono (T := fun k => w.heap.size ≤ k) (fun k hk _ => by omega)
    exact h

theorem Bld.congrX {w wr : World} {nn : Nat} {X Y : Nat → Nat → Int} {v1 : Value} {rs : List Rn} (h : Bld w wr nn X v1 rs) (e : ∀ i j, i < nn → j < nn → X i j = Y i j) : Bld w wr nn Y v1 rs := ⟨h.bel, h.res, h.tbl, h.tab.congrX e⟩

theorem Bld.setRow {w wr : World} {nn : Nat} {X : Nat → Nat → Int} {v1 : Value} {rs : List Rn} (h : Bld w wr nn X v1 rs) {i : Nat} (hi : i < nn) (j : Nat) (v : Int) :
    Bld w (wr.setCell ⟨w.heap.size + 1 + 2 + i, j, none⟩ (.int .u64 v)) nn (fun a b => if a = i ∧ b = j then v else X a b) v1 rs :=
  ⟨h.bel.setCell (by show w.heap.size ≤ w.heap.size + 1 + 2 + i; omega) _, by rw [blk_setCell_other _ _ _ _ (ne_of_types h.res (h.tab.row i hi).2 (by decide))]; exact h.res,
    by rw [blk_setCell_other _ _ _ _ (ne_of_types h.tbl (h.tab.row i hi).2 (by decide))]; exact h.tbl, h.tab.setRow hi j v⟩

theorem Bld.drew {w wr : World} {nn : Nat} {X : Nat → Nat → Int} {v1 : Value} {rs : List Rn} (h : Bld w wr nn X v1 rs) : Bld w wr.drew nn X v1 rs := ⟨h.bel.drew, h.res, h.tbl, h.tab.drew⟩

/-- The rows, when the rows below i are done, and of row i the cells below j. -/
def partX (rl : Nat) (L : Nat → Nat) (Z : Nat → Nat → Int) (i j : Nat) : Nat → Nat → Int := fun a b => if a < i ∨ (a = i ∧ b < j) then bCell rl L Z a b else 0

theorem part_step {rl : Nat} {L : Nat → Nat} {Z : Nat → Nat → Int} {i j : Nat} (hi : i < rl) (hj : j < L i) (a b : Nat) : (if a = i ∧ b = j then Z i j else partX rl L Z i j a b) = partX rl L Z i (j + 1) a b := by
  unfold partX bCell
  by_cases e : a = i ∧ b = j
  · obtain ⟨rfl, rfl⟩ := e
    simp [hi, hj]
  · rw [if_neg e]
    by_cases h : a < i ∨ (a = i ∧ b < j)
    · rw [if_pos h, if_pos (show a < i ∨ (a = i ∧ b < j + 1) by omega)]
    · rw [if_neg h, if_neg (show ¬ (a < i ∨ (a = i ∧ b < j + 1)) by omega)]

theorem part_row {rl : Nat} {L : Nat → Nat} {Z : Nat → Nat → Int} {i j nn : Nat} (hj : j = nn ∨ L i ≤ j) (a b : Nat) (hb : b < nn) : partX rl L Z i j a b = partX rl L Z (i + 1) 0 a b := by
  unfold partX bCell
  by_cases h : a < i ∨ (a = i ∧ b < j)
  · rw [if_pos h, if_pos (show a < i + 1 ∨ (a = i + 1 ∧ b < 0) by omega)]
  · rw [if_neg h]
    by_cases h' : a < i + 1 ∨ (a = i + 1 ∧ b < 0)
    · have : a = i := by omega
      subst this
      rw [if_pos h', if_neg (by omega)]
    · rw [if_neg h']

theorem part_all {rl : Nat} {L : Nat → Nat} {Z : Nat → Nat → Int} {i nn : Nat} (hi : i = nn ∨ rl ≤ i) (a b : Nat) (ha : a < nn) : partX rl L Z i 0 a b = bCell rl L Z a b := by
  unfold partX bCell
  by_cases h : a < i ∨ (a = i ∧ b < 0)
  · rw [if_pos h]
  · rw [if_neg h, if_neg (by omega)]

/-- What a later world keeps of the table that is being built. -/
theorem Bld.later {w wo wi : World} {nn : Nat} {X : Nat → Nat → Int} {v1 : Value} {rs : List Rn} (h : Bld w wo nn X v1 rs) (hb : Below wo.heap.size wo wi) : Bld w wi nn X v1 rs where
  bel := h.bel.trans (hb.mono h.bel.size)
  res := by rw [hb.block _ (Array.getElem?_eq_some_iff.1 h.res).1]; exact h.res
  tbl := by rw [hb.block _ (Array.getElem?_eq_some_iff.1 h.tbl).1]; exact h.tbl
  tab := h.tab.kept (fun k _ hk => hb.block k hk)

/-- The world while a run's 'held' is filled. -/
structure Fill (wo wi : World) (nn : Nat) (nd fr : Int) (hs : Value) (f : Nat → Int) (c : Nat) : Prop where
  bel : Below wo.heap.size wo wi
  rv : wi.heap[wo.heap.size]? = some (.cells #[.int .u8 nd, .int .u64 fr, hs] 53 (0, 0))
  cur : wi.rowIs (wo.heap.size + 1) 24 nn (fun j => .int .u64 (if j < c then f j else 0))
  size : wi.heap.size = wo.heap.size + 2

theorem fill_start (wo : World) (nn : Nat) (nd fr : Int) (hs : Value) (f : Nat → Int) : Fill wo ((wo.alloc (.cells #[.int .u8 nd, .int .u64 fr, hs] 53)).alloc (.cells (madeCells #[.int .u64 0] nn) 24)) nn nd fr hs f 0 where
  bel := ((Below.refl _ _).alloc (Nat.le_refl _) _).alloc (by simp) _
  rv := by rw [blk_alloc_lt _ _ _ (by simp), blk_alloc_new]
  cur := by
    have h := World.rowIs_made (wo.alloc (.cells #[.int .u8 nd, .int .u64 fr, hs] 53)) (.int .u64 0) nn 24
    rw [nblk_alloc] at h
    exact h.congr (fun j _ => by simp)
  size := by simp

theorem Fill.step {wo wi : World} {nn : Nat} {nd fr : Int} {hs : Value} {f : Nat → Int} {c : Nat} (h : Fill wo wi nn nd fr hs f c) {v : Int} (hv : v = f c) : Fill wo (wi.setCell ⟨wo.heap.size + 1, c, none⟩ (.int .u64 v)) nn nd fr hs f (c + 1) where
  bel := h.bel.setCell (by simp) _
  rv := by rw [blk_setCell_other _ _ _ _ (by simp)]; exact h.rv
  cur := (h.cur.set c _).congr (fun j _ => by
    subst hv
    by_cases e : j = c
    · subst e; simp
    · rw [if_neg e]
      by_cases hlt : j < c
      · rw [if_pos hlt, if_pos (by omega)]
      · rw [if_neg hlt, if_neg (by omega)])
  size := by simpa using h.size

theorem bRuns_len (nn : Nat) (nd fr : Nat → Int) (L : Nat → Nat) (Z : Nat → Nat → Int) (Bk : Nat → Nat) (m : Nat) : (bRuns nn nd fr L Z Bk m).length = m := by simp [bRuns]

theorem frozen_alloc_far {w : World} {a : Addr} {b : Bool} (o : Obj) (hlt : a.block < w.heap.size) (h : w.frozen? a = b) : (w.alloc o).drew.frozen? a = b := by
  rw [← h]; exact World.frozen?_of_block (blk_alloc_lt _ _ _ hlt)
theorem cell_alloc_far {w : World} {a : Addr} {v : Option Value} (o : Obj) (hlt : a.block < w.heap.size) (h : w.cell? a = v) : (w.alloc o).drew.cell? a = v := by
  rw [← h]; exact World.cell?_of_block (blk_alloc_lt _ _ _ hlt)

theorem Bld.append {w wr w1 : World} {nn : Nat} {X : Nat → Nat → Int} {va : Option Addr} {m cap g cap' : Nat} {rs : List Rn} {o : Obj} {nd fr : Int} {b : Nat} {f : Nat → Int} (h : Bld w wr nn X (.slice va m cap) rs) (hm : rs.length = m)
    (hcur : wr.rowIs b 24 nn (fun j => .int .u64 (f j))) (hb : w.heap.size ≤ b) (hb1 : ∀ i, i < nn → w.heap.size + 1 + 2 + i ≠ b) (hb2 : ∀ r, r ∈ rs → r.blk ≠ b)
    (hown : w1.ownsRow 0 34 3 (.slice (some ⟨g, 0, none⟩) (m + 1) cap') (m + 1) (rs.flatMap (Rn.cells nn) ++ [.int .i64 nd, .int .u64 fr, .slice (some ⟨b, 0, none⟩) nn nn]))
    (hgrow : (wr.alloc o).drew.grownBy w1 (Value.slice va m cap).ownBlock) (hat : (Value.slice va m cap).ownBlock = some g ∨ g = wr.heap.size + 1) :
    Bld w (w1.setCell ⟨w.heap.size + 1 + 2 + nn, 1, none⟩ (.slice (some ⟨g, 0, none⟩) (m + 1) cap')) nn X (.slice (some ⟨g, 0, none⟩) (m + 1) cap') (rs ++ [⟨nd, fr, b, f⟩]) := by
  have hsz : wr.heap.size ≤ w1.heap.size := by
    have := hgrow.size
    rw [show (wr.alloc o).drew.heap.size = (wr.alloc o).heap.size from rfl, nblk_alloc] at this
    omega
  have hk : ∀ k, k < wr.heap.size → (Value.slice va m cap).ownBlock ≠ some k → w1.heap[k]? = wr.heap[k]? := fun k hk hne => by
    rw [hgrow.block k (by rw [show (wr.alloc o).drew.heap.size = (wr.alloc o).heap.size from rfl, nblk_alloc]; omega) (fun e => hne e.symm)]
    exact blk_alloc_lt _ _ _ hk
  have htb : w1.heap[w.heap.size + 1 + 2 + nn]? = some (.cells #[.slice (some ⟨w.heap.size + 1 + 1, 0, none⟩) nn nn, .slice va m cap] 27 (0, 0)) := by
    rw [hk _ (Array.getElem?_eq_some_iff.1 h.tbl).1 (own_ne_block h.tab.own h.tbl (by decide))]; exact h.tbl
  have hsg : w.heap.size ≤ g := by
    rcases hat with e | e
    · exact h.tab.sown g e
    · have := h.bel.size; omega
  have hrow : ∀ k (fk : Nat → Value), k < wr.heap.size → wr.rowIs k 24 nn fk → (w1.setCell ⟨w.heap.size + 1 + 2 + nn, 1, none⟩ (.slice (some ⟨g, 0, none⟩) (m + 1) cap')).rowIs k 24 nn fk := fun k fk hlt hr =>
    World.rowIs.setOther (hr.of_block (hk k hlt (h.tab.own_ne hr))) (fun e => ne_of_types h.tbl hr (by decide) e.symm) _
  refine ⟨?_, ?_, ?_, ?_⟩
  · refine (h.bel.trans ⟨hgrow.os, hgrow.tape, hgrow.output, hsz, fun k hlt => hk k (by have := h.bel.size; omega) (fun e => ?_)⟩).setCell (by show w.heap.size ≤ w.heap.size + 1 + 2 + nn; omega) _
    have := h.tab.sown k e
    omega
  · rw [blk_setCell_other _ _ _ _ (by simp; omega), hk _ (Array.getElem?_eq_some_iff.1 h.res).1 (own_ne_block h.tab.own h.res (by decide))]; exact h.res
  · simp [World.setCell, Array.getElem?_modify, htb]
  · refine ⟨rfl, h.tab.srb, ?_, fun i hi => ⟨(h.tab.row i hi).1, hrow _ _ (h.tab.row i hi).2.lt (h.tab.row i hi).2⟩, h.tab.inj, ?_, ?_, ?_, ?_, ?_⟩
    · have ht : (Value.slice va m cap).ownBlock ≠ some (w.heap.size + 1 + 1) := by
        obtain ⟨c, hc, _⟩ := h.tab.top
        exact own_ne_block h.tab.own hc (by decide)
      exact World.rowIs.setOther (h.tab.top.of_block (hk _ h.tab.top.lt ht)) (by simp; omega) _
    · rw [List.flatMap_append, List.length_append, hm]
      refine ownsRow_setCell_ne hown ?_ _
      exact own_ne_block hown htb (by decide)
    · intro g' hg'
      simp [Value.ownBlock] at hg'
      subst hg'
      exact hsg
    · intro r hr
      rcases List.mem_append.1 hr with hr | hr
      · exact ⟨(h.tab.held r hr).1, hrow _ _ (h.tab.held r hr).2.lt (h.tab.held r hr).2⟩
      · simp only [List.mem_singleton] at hr
        subst hr
        exact ⟨hb, hrow _ _ hcur.lt hcur⟩
    · intro i r hi hr
      rcases List.mem_append.1 hr with hr | hr
      · exact h.tab.apart i r hi hr
      · simp only [List.mem_singleton] at hr
        subst hr
        exact hb1 i hi
    · rw [List.map_append]
      refine List.nodup_append.2 ⟨h.tab.nodup, by simp, ?_⟩
      intro x hx y hy
      simp only [List.map_cons, List.map_nil, List.mem_singleton] at hy
      subst hy
      obtain ⟨r, hr, rfl⟩ := List.mem_map.1 hx
      exact hb2 r hr

theorem tab_res {w wr : World} {nn : Nat} {X : Nat → Nat → Int} {v1 : Value} {rs : List Rn} (h : Bld w wr nn X v1 rs) {x y : Value} :
    Tab ((wr.setCell ⟨w.heap.size, 0, none⟩ x).setCell ⟨w.heap.size, 1, none⟩ y) (fun k => w.heap.size ≤ k) nn (.slice (some ⟨w.heap.size + 2, 0, none⟩) nn nn) v1 (w.heap.size + 2) (fun i => w.heap.size + 3 + i) X rs := by
  have h1 := h.tab.setFar (a := ⟨w.heap.size, 0, none⟩) h.res x
  have h2 : (wr.setCell ⟨w.heap.size, 0, none⟩ x).heap[w.heap.size]? = some (.cells #[x, .slice none 0 0] 27 (0, 0)) := by simp [World.setCell, Array.getElem?_modify, h.res]
  exact h1.setFar (a := ⟨w.heap.size, 1, none⟩) h2 y

theorem bRuns_snoc (nn : Nat) (nd fr : Nat → Int) (L : Nat → Nat) (Z : Nat → Nat → Int) (Bk : Nat → Nat) (m b : Nat) : bRuns nn nd fr L Z (fun k => if k = m then b else Bk k) (m + 1) = bRuns nn nd fr L Z Bk m ++ [⟨nd m % nn + 1, fr m, b, fun j => if j < L m then Z m j else fr m⟩] := by
  unfold bRuns
  rw [List.range_succ, List.map_append]
  congr 1
  · apply List.map_congr_left
    intro k hk
    have : k ≠ m := by have := List.mem_range.1 hk; omega
    simp [bRun, this]
  · simp [bRun]

set_option maxHeartbeats 4000000 in
theorem build_any (w : World) (n : Int) (hn0 : 0 ≤ n) (hn1 : n ≤ 255) (nn : Nat) (hnn : n % 6 + 1 = nn) (ra : Option Addr) (rl rc : Nat) (gb go : Nat) (A : Nat → Option Addr) (L C RB RO : Nat → Nat) (Z : Nat → Nat → Int) (ua : Option Addr) (ul uc : Nat) (ub uo : Nat) (nd fr : Nat → Int) (A' : Nat → Option Addr) (L' C' RB' RO' : Nat → Nat) (Z' : Nat → Nat → Int)
    (hR : RowsIn w ra rl gb go A L C RB RO Z) (hU : RunsIn w ua ul ub uo nd fr A' L' C' RB' RO' Z') (hul : ul ≤ 1024) :
    Calls Yba.prog 7 #[.int .u8 n, .slice ra rl rc, .slice ua ul uc] w fun e w' => ∃ v1 Bk, e = .returned (.agg #[.slice (some ⟨w.heap.size + 2, 0, none⟩) nn nn, v1]) ∧ Below w.heap.size w w' ∧
      Tab w' (fun k => w.heap.size ≤ k) nn (.slice (some ⟨w.heap.size + 2, 0, none⟩) nn nn) v1 (w.heap.size + 2) (fun i => w.heap.size + 3 + i) (bCell rl L Z) (bRuns nn nd fr L' Z' Bk ul) := by
  have h1 : 1 ≤ nn := by omega
  have h6 : nn ≤ 6 := by omega
  go_enter Yba.func7, Yba.ntmps7
  go_upto_block 0 with (go_at_call 16; refine (newTable_any nn h1 h6 _).mono ?_; rintro e w1 ⟨rfl, hbel1, hs1, ht1⟩)
  have hB0 := bld_start hbel1 (by simpa using hs1) (by simpa using ht1)
  clear hbel1 hs1 ht1
  go_cut [9, 10] (fun _ _ wr => Bld w wr nn (bCell rl L Z) (.slice none 0 0) [])
  case first =>
    go_wp2_with fail
    go_loopg [9] nn (fun g i wr => ∃ m : Nat, m ≤ nn ∧ g = nn - m ∧ i = .int .i64 m ∧ Bld w wr nn (partX rl L Z m 0) (.slice none 0 0) [])
    case atStart => exact ⟨0, Nat.zero_le _, rfl, rfl, hB0.congrX (fun i j _ _ => by simp [partX])⟩
    case round =>
      clear hB0
      obtain ⟨i, hi, rfl, rfl, hB⟩ := hrel
      have hrlen := hR.len
      by_cases hgo : i < nn ∧ i < rl
      · obtain ⟨hin, hir⟩ := hgo
        have hinz : (i : Int) < (nn : Int) := by omega
        have hirz : (i : Int) < (rl : Int) := by omega
        go_wp2
        go_loopg [10] nn (fun g j wi => ∃ c : Nat, c ≤ nn ∧ g = nn - c ∧ j = .int .i64 c ∧ Bld w wi nn (partX rl L Z i c) (.slice none 0 0) [])
        case atStart => exact ⟨0, Nat.zero_le _, rfl, rfl, hB⟩
        case round =>
          clear hB
          obtain ⟨c, hc, rfl, rfl, hB⟩ := hrel
          obtain rfl := hR.adr (by omega)
          have q1 := (hR.below hB.bel).row i hir
          have hlen := hR.lens i hir
          by_cases hcn : c < nn
          · have hcnz : (c : Int) < (nn : Int) := by omega
            by_cases hcl : c < L i
            · have hclz : (c : Int) < (L i : Int) := by omega
              obtain ⟨q2, q3⟩ := (hR.below hB.bel).cel i hir c hcl
              rw [q2] at q1
              have q4 : wr.cell? ⟨w.heap.size + 1 + 2 + nn, 0, none⟩ = some (.slice (some ⟨w.heap.size + 1 + 1, 0, none⟩) nn nn) := by simp [World.cell?, hB.tbl]
              have q5 := hB.tab.top.cell hin
              have q6 := (hB.tab.row i hin).2.cell hcn
              have q7 := (hB.tab.row i hin).2.frozen c
              go_wp2
              go_region
              all_goals go_wp2
              all_goals
                go_roundg (nn - (c + 1))
                case measure => go_light; omega
                case rel =>
                  go_light
                  refine ⟨c + 1, by omega, rfl, by go_num, ?_⟩
                  exact ((hB.setRow hin c _).drew).congrX (fun a b _ _ => part_step hir hcl a b)
            · go_wp2
              go_roundg (nn - (i + 1))
              case measure => go_light; omega
              case rel =>
                go_light
                exact ⟨i + 1, by omega, rfl, by go_num, hB.congrX (fun a b _ hb => part_row (Or.inr (by omega)) a b hb)⟩
          · go_wp2
            go_roundg (nn - (i + 1))
            case measure => go_light; omega
            case rel =>
              go_light
              exact ⟨i + 1, by omega, rfl, by go_num, hB.congrX (fun a b _ hb => part_row (Or.inl (by omega)) a b hb)⟩
      · have hB1 : Bld w wr nn (bCell rl L Z) (.slice none 0 0) [] := hB.congrX (fun a b ha _ => part_all (by omega) a b ha)
        clear hB
        rcases (show ¬ i < nn ∨ (i < nn ∧ ¬ i < rl) by omega) with hin | ⟨hin, hir⟩
        all_goals
          clear hgo
          go_wp2
          go_meet
          exact hB1
  case rest =>
    have hB1 := hcut
    clear hcut hB0
    go_wp2
    go_loopg [62] ul (fun g i wr => ∃ m : Nat, m ≤ ul ∧ g = ul - m ∧ i = .int .i64 m ∧ ∃ v1 Bk, Bld w wr nn (bCell rl L Z) v1 (bRuns nn nd fr L' Z' Bk m))
    case atStart => exact ⟨0, Nat.zero_le _, rfl, rfl, _, fun _ => 0, hB1⟩
    case round =>
      clear hB1
      obtain ⟨m, hm, rfl, rfl, v1, Bk, hB⟩ := hrel
      by_cases hmu : m < ul
      · have hmuz : (m : Int) < (ul : Int) := by omega
        obtain rfl := hU.adr (by omega)
        have r0 := (hU.below hB.bel).c0 m hmu
        have r1 := (hU.below hB.bel).c1 m hmu
        have r2 := (hU.below hB.bel).c2 m hmu
        have hmk32 := run_make_row' (P := Yba.prog) 32 24 (.int .u64 0) 8 Yba.underlying32 Yba.info24 rfl .i64 .i64 nn (by omega) (by omega)
        have hlen := hU.lens m hmu
        have hnd := hU.nds m hmu
        go_wp2
        obtain ⟨wo, hwo⟩ : ∃ wo : World, wo = wr := ⟨_, rfl⟩
        subst hwo
        have hF0 := fill_start wo nn (nd m) (fr m) (.slice (A' m) (L' m) (C' m)) (fun j => if j < L' m then Z' m j else fr m)
        go_loopg [70] nn (fun g j wi => ∃ c : Nat, c ≤ nn ∧ g = nn - c ∧ j = .int .i64 c ∧ Fill wo wi nn (nd m) (fr m) (.slice (A' m) (L' m) (C' m)) (fun j => if j < L' m then Z' m j else fr m) c)
        case atStart => exact ⟨0, Nat.zero_le _, rfl, rfl, hF0⟩
        case round =>
          clear hF0 r0 r1 r2 hmk32
          obtain ⟨c, hc, rfl, rfl, hF⟩ := hrel
          have q0 : wr.cell? ⟨wo.heap.size, 0, none⟩ = some (.int .u8 (nd m)) := by simp [World.cell?, hF.rv]
          have q1 : wr.cell? ⟨wo.heap.size, 1, none⟩ = some (.int .u64 (fr m)) := by simp [World.cell?, hF.rv]
          have q2 : wr.cell? ⟨wo.heap.size, 2, none⟩ = some (.slice (A' m) (L' m) (C' m)) := by simp [World.cell?, hF.rv]
          by_cases hcn : c < nn
          · have hcnz : (c : Int) < (nn : Int) := by omega
            have q3 := hF.cur.cell hcn
            have q4 := hF.cur.frozen c
            by_cases hcl : c < L' m
            · have hclz : (c : Int) < (L' m : Int) := by omega
              obtain ⟨q5, q6⟩ := (hU.below (hB.later hF.bel).bel).cel m hmu c hcl
              rw [q5] at q2
              go_wp2
              go_roundg (nn - (c + 1))
              case measure => go_light; omega
              case rel =>
                go_light
                exact ⟨c + 1, by omega, rfl, by go_num, hF.step (by simp [hcl])⟩
            · go_wp2
              go_roundg (nn - (c + 1))
              case measure => go_light; omega
              case rel =>
                go_light
                exact ⟨c + 1, by omega, rfl, by go_num, hF.step (by simp [hcl])⟩
          · have hcc : nn = c := by omega
            subst hcc
            have hB' := hB.later hF.bel
            obtain ⟨va, cap, hv1, hcap, hcm, -⟩ := hB'.tab.slice
            rw [bRuns_len] at hv1 hcap
            subst hv1
            have s0 : wr.cell? ⟨w.heap.size + 1 + 2 + nn, 1, none⟩ = some (.slice va m cap) := by simp [World.cell?, hB'.tbl]
            have s1 : wr.frozen? ⟨w.heap.size + 1 + 2 + nn, 1, none⟩ = false := by simp [World.frozen?, hB'.tbl]
            have hown := hB'.tab.own
            rw [bRuns_len] at hown
            obtain ⟨i0, hi0, hz0, hz1, hz2⟩ := info_parts Yba.info34
            have n1 : (Value.slice va m cap).ownBlock ≠ some (w.heap.size + 1 + 2 + nn) := own_ne_block hown hB'.tbl (by decide)
            have n2 : (Value.slice va m cap).ownBlock ≠ some wo.heap.size := own_ne_block hown hF.rv (by decide)
            have l1 : w.heap.size + 1 + 2 + nn < wr.heap.size := (Array.getElem?_eq_some_iff.1 hB'.tbl).1
            have l2 : wo.heap.size < wr.heap.size := (Array.getElem?_eq_some_iff.1 hF.rv).1
            have z0 : ¬ nn = 0 := by omega
            have z1 : IntKind.i64.wrap (nd m) = nd m := by rw [IntKind.wrap_i64]; omega
            have z2 : (nd m).tmod (nn : Int) = nd m % (nn : Int) := Int.tmod_eq_emod_of_nonneg hnd.1
            have z3 : 0 ≤ nd m % (nn : Int) := Int.emod_nonneg _ (by omega)
            have z4 : nd m % (nn : Int) < (nn : Int) := Int.emod_lt_of_pos _ (by omega)
            have z5 : IntKind.i64.wrap (nd m % (nn : Int) + 1) = nd m % (nn : Int) + 1 := by rw [IntKind.wrap_i64]; omega
            go_wp2_with fail
            go_region_law ((refine step_append_lies _ (by rfl) _ _ _ (by rfl) 0 34 i0 _ 3 40 Yba.underlying25 hi0 hz0 hz1 hz2 rfl (by omega) (.slice va m cap) m _ (by simp [Act.eval]) ((hown.alloc _).drew) ⟨wr.heap.size, 0, none⟩ 1 1 [.int .i64 (nd m % nn + 1), .int .u64 (fr m), .slice (some ⟨wo.heap.size + 1, 0, none⟩) nn nn] (by simp [Act.eval]) (by rfl) (World.news_of_block (cs := #[.int .i64 (nd m % nn + 1), .int .u64 (fr m), .slice (some ⟨wo.heap.size + 1, 0, none⟩) nn nn]) (t := 34) (fr := (0, 0)) (heap_alloc_new wr _)) (by simp [Value.oneCell']) (by omega) (by unfold maxLen; omega) (by omega) (by simp) (wr.heap.size + 1) (by simp) ?_; intro g cap' w1 hown1 hgrow hat hlt; have fz : w1.frozen? ⟨w.heap.size + 1 + 2 + nn, 1, none⟩ = false := (by rw [hgrow.frozen_far _ (by simp; omega) (Ne.symm n1)]; exact frozen_alloc_far _ (by omega) s1); have cz : w1.cell? ⟨w.heap.size + 1 + 2 + nn, 1, none⟩ = some (.slice va m cap) := (by rw [hgrow.cell_far _ (by simp; omega) (Ne.symm n1)]; exact cell_alloc_far _ (by omega) s0))) 
            all_goals go_wp2
            all_goals
              go_roundg (ul - (m + 1))
              case measure => go_light; omega
              case rel =>
                go_light
                refine ⟨m + 1, by omega, rfl, by go_num, .slice (some ⟨g, 0, none⟩) (m + 1) cap', fun k => if k = m then wo.heap.size + 1 else Bk k, ?_⟩
                rw [bRuns_snoc]
                exact hB'.append (bRuns_len _ _ _ _ _ _ _) (hF.cur.congr (fun j hj => by simp [hj])) (by have := hB.bel.size; omega) (fun i hi => by have := (hB.tab.row i hi).2.lt; omega) (fun r hr => by have := (hB.tab.held r hr).2.lt; omega) hown1 hgrow hat
      · have hmm : ul = m := by omega
        subst hmm
        obtain ⟨va, cap, hv1, -, -, -⟩ := hB.tab.slice
        subst hv1
        have s0 : wr.cell? ⟨w.heap.size + 1 + 2 + nn, 0, none⟩ = some (.slice (some ⟨w.heap.size + 1 + 1, 0, none⟩) nn nn) := by simp [World.cell?, hB.tbl]
        have s1 : wr.cell? ⟨w.heap.size + 1 + 2 + nn, 1, none⟩ = some (.slice va (bRuns nn nd fr L' Z' Bk ul).length cap) := by simp [World.cell?, hB.tbl]
        have s2 : wr.cell? ⟨w.heap.size, 0, none⟩ = some (.slice none 0 0) := by simp [World.cell?, hB.res]
        have s3 : wr.cell? ⟨w.heap.size, 1, none⟩ = some (.slice none 0 0) := by simp [World.cell?, hB.res]
        have s4 : wr.frozen? ⟨w.heap.size, 0, none⟩ = false := by simp [World.frozen?, hB.res]
        have s5 : wr.frozen? ⟨w.heap.size, 1, none⟩ = false := by simp [World.frozen?, hB.res]
        go_wp2
        refine bodyPost_ret (v := .agg #[.slice (some ⟨w.heap.size + 1 + 1, 0, none⟩) nn nn, .slice va (bRuns nn nd fr L' Z' Bk ul).length cap]) (by simp [results, Yba.results7, go_sem, s2, s3]) rfl ⟨_, Bk, rfl, ?_, ?_⟩
        · exact (hB.bel.setCell (Nat.le_refl _) _).setCell (Nat.le_refl _) _
        · exact tab_res hB
end Go.Proofs.Ybulkbsio
