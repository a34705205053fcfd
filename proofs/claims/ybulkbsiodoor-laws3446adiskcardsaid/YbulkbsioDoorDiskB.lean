/-
  (*Node).Counts with a disk: the sixteen buckets.
-/
import Derived.Test.YbulkbsioDoorDiskA
namespace Go.Proofs.YbulkbsioDoor
open Go.RowKit Go.Deep Go.RwLone
attribute [local go_sem ↓] Go.wp_at_zero Go.wp_at_succ

set_option maxHeartbeats 3200000 in
set_option maxRecDepth 100000 in
theorem counts_disk (nb : Nat) (p d r c t : Int) (W : Nat → Int) (x0 x2 x3 : Value) (T : TypeId) (dv : Value) (w : World) (t0 : TypeId) (fr : Nat × Nat) (c6 : w.cell? ⟨nb, 6, none⟩ = some x0) (c8 : w.cell? ⟨nb, 8, none⟩ = some x2) (c9 : w.cell? ⟨nb, 9, none⟩ = some x3) (c10 : w.cell? ⟨nb, 10, none⟩ = some (.int .i32 0)) (f10 : w.frozen? ⟨nb, 10, none⟩ = false)
    (c24 : w.cell? ⟨nb, 24, none⟩ = some (.iface T dv)) (c35 : w.cell? ⟨nb, 35, none⟩ = some (.int .u64 p)) (c36 : w.cell? ⟨nb, 36, none⟩ = some (.int .u64 d)) (c37 : w.cell? ⟨nb, 37, none⟩ = some (.int .u64 r))
    (c38 : w.cell? ⟨nb, 38, none⟩ = some (.int .u64 c)) (c39 : w.cell? ⟨nb, 39, none⟩ = some (.int .i64 t)) (c40 : ∀ i, i < 16 → w.cell? ⟨nb, 40 + i, none⟩ = some (.int .u64 (W i))) (hg0 : w.heap[0]? = some (.cells BA t0 fr)) (hnb : nb ≠ 0) :
    Calls Ybad.prog 5 #[.pointer (some ⟨nb, 0, none⟩)] w fun e w' => ∃ sb g cap, e = .returned (.agg #[.int .u64 p, .int .u64 d, .int .u64 r, .pointer (some ⟨sb, 0, none⟩)]) ∧ Below w.heap.size w w' ∧ w.heap.size ≤ sb ∧
      w'.heap[sb]? = some (.cells #[.int .u64 c, .int .i64 t, .slice (some ⟨g, 0, none⟩) 16 cap] 85 (0, 0)) ∧ w'.ownsRow 0 87 2 (.slice (some ⟨g, 0, none⟩) 16 cap) 16 (bks W 16) := by
  have hl : nb < w.heap.size := World.block_lt_of_cell? w _ c6
  have hw1 : wrap32 ((0 : Int) + 1) = 1 := by simp [wrap32]
  have hw2 : wrap32 ((1 : Int) + -1) = 0 := by simp [wrap32]
  have fa : ∀ o (x : Nat), (w.alloc o).cell? ⟨nb, x, none⟩ = w.cell? ⟨nb, x, none⟩ := fun o x => World.cell?_of_block (blk_alloc_lt _ _ _ hl)
  have fz : ∀ o (x : Nat), (w.alloc o).frozen? ⟨nb, x, none⟩ = w.frozen? ⟨nb, x, none⟩ := fun o x => World.frozen?_of_block (blk_alloc_lt _ _ _ hl)
  go_enter_defers Ybad.func5, Ybad.ntmps5
  go_wp2_with fail
  refine (rlock_open Ybad.rwRLib nb 6 0 x0 x3 _ ?_ ?_ ?_ ?_ ?_).mono ?_
  · rw [fa]; exact c6
  · rw [fa]; exact c9
  · rw [fa]; exact c10
  · rw [fz]; exact f10
  · rw [hw1]; omega
  rintro e w1 ⟨rfl, rfl⟩
  rw [hw1]
  have HC40 : Hid (∀ i, i < 16 → w.cell? ⟨nb, 40 + i, none⟩ = some (.int .u64 (W i))) := c40
  clear c40
  go_wp2
  obtain ⟨w1, hw⟩ : ∃ w1, w1 = w.setCell ⟨nb, 10, none⟩ (.int .i32 1) := ⟨_, rfl⟩
  rw [← hw]
  have HW : Hid (w1 = w.setCell ⟨nb, 10, none⟩ (.int .i32 1)) := hw
  have hs : w1.heap.size = w.heap.size := by rw [hw]; simp
  have e35 : w1.cell? ⟨nb, 35, none⟩ = some (.int .u64 p) := by rw [hw, World.cell?_setCell_other _ _ _ _ (by simp)]; exact c35
  have e36 : w1.cell? ⟨nb, 36, none⟩ = some (.int .u64 d) := by rw [hw, World.cell?_setCell_other _ _ _ _ (by simp)]; exact c36
  have e37 : w1.cell? ⟨nb, 37, none⟩ = some (.int .u64 r) := by rw [hw, World.cell?_setCell_other _ _ _ _ (by simp)]; exact c37
  have e38 : w1.cell? ⟨nb, 38, none⟩ = some (.int .u64 c) := by rw [hw, World.cell?_setCell_other _ _ _ _ (by simp)]; exact c38
  have e39 : w1.cell? ⟨nb, 39, none⟩ = some (.int .i64 t) := by rw [hw, World.cell?_setCell_other _ _ _ _ (by simp)]; exact c39
  have e24 : w1.cell? ⟨nb, 24, none⟩ = some (.iface T dv) := by rw [hw, World.cell?_setCell_other _ _ _ _ (by simp)]; exact c24
  have e6 : w1.cell? ⟨nb, 6, none⟩ = some x0 := by rw [hw, World.cell?_setCell_other _ _ _ _ (by simp)]; exact c6
  have e8 : w1.cell? ⟨nb, 8, none⟩ = some x2 := by rw [hw, World.cell?_setCell_other _ _ _ _ (by simp)]; exact c8
  have e10 : w1.cell? ⟨nb, 10, none⟩ = some (.int .i32 1) := by rw [hw]; exact World.cell?_setCell_same _ _ _ c10
  have E40 : Hid (∀ i, i < 16 → w1.cell? ⟨nb, 40 + i, none⟩ = some (.int .u64 (W i))) := fun i hi => by rw [hw, World.cell?_setCell_other _ _ _ _ (by intro e; have := congrArg Addr.off e; simp at this; omega)]; exact HC40.out i hi
  have z10 : w1.frozen? ⟨nb, 10, none⟩ = false := by rw [hw]; simpa using f10
  have G0 : Hid (w1.heap[0]? = some (.cells BA t0 fr)) := by
    show w1.heap[0]? = _
    rw [hw, blk_setCell_other _ _ _ _ (by simp; omega)]; exact hg0
  clear hw
  rw [← hs]
  have HC : Hid (w.cell? ⟨nb, 10, none⟩ = some (.int .i32 0)) := c10
  have HS : Hid (w1.heap.size = w.heap.size) := hs
  clear c6 c8 c9 c10 f10 c24 c35 c36 c37 c38 c39 fa fz hg0 HC40
  have hl1 : nb < w1.heap.size := World.block_lt_of_cell? w1 _ e6
  clear hs hl
  have hnl : nb ≠ w1.heap.size := by omega
  have hnl1 : nb ≠ w1.heap.size + 1 := by omega
  have hnl2 : nb ≠ w1.heap.size + 1 + 1 := by omega
  go_region_held3 (fun w' => w'.cell? ⟨nb, 35, none⟩ = some (.int .u64 p) ∧ w'.cell? ⟨nb, 36, none⟩ = some (.int .u64 d) ∧ w'.cell? ⟨nb, 37, none⟩ = some (.int .u64 r)) (go_keep) (fail)
  go_wp2
  have k3 : ∀ o o' o'' (x : Nat), (((w1.alloc o).alloc o').alloc o'').cell? ⟨nb, x, none⟩ = w1.cell? ⟨nb, x, none⟩ := fun o o' o'' x => far3 hl1 rfl
  go_region_held3 (fun w' => w'.cell? ⟨nb, 38, none⟩ = some (.int .u64 c) ∧ w'.cell? ⟨nb, 39, none⟩ = some (.int .i64 t)) (go_keep) (fail)
  have hD0 := dk_start w1 p d r c t W
  have hgx := (hD0.bel.block 0 (Array.getElem?_eq_some_iff.1 G0.out).1).trans G0.out
  go_upto_region 6 with fail
  clear hnl hnl1 hnl2 k3
  go_wp2_with (refine wpList_load_row rfl 90 _ rfl 0 rfl t0 BA fr _ hgx Ybad.underlying90 rfl (by kernel_rfl) ?_)
  obtain ⟨i0, hi0, hz0, hz1, hz2⟩ := info_parts Ybad.info87
  clear hgx e35 e36 e37 e38 e39 e24
  go_loopg [48] 16 (fun g i wr => ∃ m : Nat, m ≤ 16 ∧ g = 16 - m ∧ i = .int .i64 m ∧ ∃ v, Dk w1 wr p d r c t W v m)
  case atStart => exact ⟨0, Nat.zero_le _, rfl, rfl, _, hD0⟩
  case round =>
    clear hD0
    obtain ⟨m, hm, rfl, rfl, v, hD⟩ := hrel
    by_cases hmu : m < 16
    · have hmuz : (m : Int) < 16 := by omega
      have hidx := index_bnd m hmu
      obtain ⟨bm, hbm⟩ : ∃ bm, bm = bnd.getD m 0 := ⟨_, rfl⟩
      rw [← hbm] at hidx
      have HBM : Hid (bm = bnd.getD m 0) := hbm
      clear hbm
      obtain ⟨va, cap, hv⟩ := own_form hD.own
      subst hv
      have s0 : wr.cell? ⟨w1.heap.size + 1, 3, none⟩ = some (.pointer (some ⟨w1.heap.size + 1 + 1, 0, none⟩)) := by simp [World.cell?, hD.cv]
      have s1 : wr.cell? ⟨w1.heap.size + 1 + 1, 2, none⟩ = some (.slice va m cap) := by simp [World.cell?, hD.sv]
      have s2 : wr.frozen? ⟨w1.heap.size + 1 + 1, 2, none⟩ = false := by simp [World.frozen?, hD.sv]
      have s3 := cell_later hD.bel (E40.out m hmu)
      have n1 : (Value.slice va m cap).ownBlock ≠ some (w1.heap.size + 1 + 1) := own_ne_block hD.own hD.sv (by decide)
      have n2 : (Value.slice va m cap).ownBlock ≠ some (w1.heap.size + 1) := own_ne_block hD.own hD.cv (by decide)
      have l1 : w1.heap.size + 1 + 1 < wr.heap.size := (Array.getElem?_eq_some_iff.1 hD.sv).1
      have hown := hD.own
      have a0 : ∀ o, (wr.alloc o).cell? ⟨w1.heap.size + 1, 3, none⟩ = some (.pointer (some ⟨w1.heap.size + 1 + 1, 0, none⟩)) := fun o => cell_alloc_far o (by show w1.heap.size + 1 < wr.heap.size; omega) s0
      have a1 : ∀ o, (wr.alloc o).cell? ⟨w1.heap.size + 1 + 1, 2, none⟩ = some (.slice va m cap) := fun o => cell_alloc_far o l1 s1
      have a3 : ∀ o, (wr.alloc o).cell? ⟨nb, 40 + m, none⟩ = some (.int .u64 (W m)) := fun o => cell_alloc_far o (by show nb < wr.heap.size; have := hD.bel.size; omega) s3
      go_wp2_with fail
      refine wp_region_noPanic ?_
      go_region_law ((refine step_append_lies _ (by rfl) _ _ _ (by rfl) 0 87 i0 _ 2 16 Ybad.underlying83 hi0 hz0 hz1 hz2 rfl (by omega) (.slice va m cap) m _ (by simp [Act.eval]) ((hown.alloc _).drew) ⟨wr.heap.size, 0, none⟩ 1 1 [.int .i64 bm, .int .u64 (W m)] (by simp [Act.eval]) (by rfl) (World.news_of_block (cs := #[.int .i64 bm, .int .u64 (W m)]) (t := 87) (fr := (0, 0)) (heap_alloc_new wr _)) (by simp [Value.oneCell']) (by omega) (by unfold maxLen; omega) (by omega) (by simp) (wr.heap.size + 1) (by simp) ?_; intro g cap' w2 hown1 hgrow hat hlt; have fz : w2.frozen? ⟨w1.heap.size + 1 + 1, 2, none⟩ = false := (by rw [hgrow.frozen_far _ (by simp; omega) (Ne.symm n1)]; exact frozen_alloc_far _ (by omega) s2); have cz : w2.cell? ⟨w1.heap.size + 1 + 1, 2, none⟩ = some (.slice va m cap) := (by rw [hgrow.cell_far _ (by simp; omega) (Ne.symm n1)]; exact cell_alloc_far _ (by omega) s1); have cy : w2.cell? ⟨w1.heap.size + 1, 3, none⟩ = some (.pointer (some ⟨w1.heap.size + 1 + 1, 0, none⟩)) := (by rw [hgrow.cell_far _ (by simp; omega) (Ne.symm n2)]; exact cell_alloc_far _ (by show w1.heap.size + 1 < wr.heap.size; omega) s0)))
      all_goals refine NoPanic.normal ?_
      all_goals go_wp2
      all_goals
        go_roundg (16 - (m + 1))
        case measure => go_light; omega
        case rel =>
          go_light
          exact ⟨m + 1, by omega, rfl, by go_num, .slice (some ⟨g, 0, none⟩) (m + 1) cap', hD.append HBM.out hown1 hgrow hat⟩
    · have hmm : m = 16 := by omega
      subst hmm
      obtain ⟨va, cap, hv⟩ := own_form hD.own
      subst hv
      have s0 : wr.cell? ⟨w1.heap.size + 1, 0, none⟩ = some (.int .u64 p) := by simp [World.cell?, hD.cv]
      have s1 : wr.cell? ⟨w1.heap.size + 1, 1, none⟩ = some (.int .u64 d) := by simp [World.cell?, hD.cv]
      have s2 : wr.cell? ⟨w1.heap.size + 1, 2, none⟩ = some (.int .u64 r) := by simp [World.cell?, hD.cv]
      have s3 : wr.cell? ⟨w1.heap.size + 1, 3, none⟩ = some (.pointer (some ⟨w1.heap.size + 1 + 1, 0, none⟩)) := by simp [World.cell?, hD.cv]
      have t0' : wr.cell? ⟨w1.heap.size, 0, none⟩ = some (.int .u64 0) := by simp [World.cell?, hD.res]
      have t1' : wr.cell? ⟨w1.heap.size, 1, none⟩ = some (.int .u64 0) := by simp [World.cell?, hD.res]
      have t2' : wr.cell? ⟨w1.heap.size, 2, none⟩ = some (.int .u64 0) := by simp [World.cell?, hD.res]
      have t3' : wr.cell? ⟨w1.heap.size, 3, none⟩ = some (.pointer none) := by simp [World.cell?, hD.res]
      have y0 : wr.frozen? ⟨w1.heap.size, 0, none⟩ = false := by simp [World.frozen?, hD.res]
      have y1 : wr.frozen? ⟨w1.heap.size, 1, none⟩ = false := by simp [World.frozen?, hD.res]
      have y2 : wr.frozen? ⟨w1.heap.size, 2, none⟩ = false := by simp [World.frozen?, hD.res]
      have y3 : wr.frozen? ⟨w1.heap.size, 3, none⟩ = false := by simp [World.frozen?, hD.res]
      go_wp2
      refine leaves_cons (f := 8) (args := #[.pointer (some ⟨nb, 6, none⟩)]) (by simp) (by simp [go_sem]) ?_
      have hl2 : nb < wr.heap.size := by have := hD.bel.size; omega
      have far4 : ∀ (x : Nat) (v : Option Value) (v0 v1 v2 v3 : Value), wr.cell? ⟨nb, x, none⟩ = v → ((((wr.setCell ⟨w1.heap.size, 0, none⟩ v0).setCell ⟨w1.heap.size, 1, none⟩ v1).setCell ⟨w1.heap.size, 2, none⟩ v2).setCell ⟨w1.heap.size, 3, none⟩ v3).cell? ⟨nb, x, none⟩ = v := fun x v v0 v1 v2 v3 h => by
        rw [World.cell?_of_block (blk_setCell_other _ _ _ _ (by show nb ≠ w1.heap.size; omega)), World.cell?_of_block (blk_setCell_other _ _ _ _ (by show nb ≠ w1.heap.size; omega)), World.cell?_of_block (blk_setCell_other _ _ _ _ (by show nb ≠ w1.heap.size; omega)), World.cell?_of_block (blk_setCell_other _ _ _ _ (by show nb ≠ w1.heap.size; omega))]
        exact h
      refine (runlock_deferred Ybad.rwRLib nb 6 1 x0 x2 .returning _ ?_ ?_ ?_ ?_ ?_).mono ?_
      · exact far4 _ _ _ _ _ _ (cell_later hD.bel e6)
      · exact far4 _ _ _ _ _ _ (cell_later hD.bel e8)
      · exact far4 _ _ _ _ _ _ (cell_later hD.bel e10)
      · simp only [World.frozen?_setCell]; rw [hD.bel.frozen hl1]; exact z10
      · rw [hw2]; omega
      rintro e u' w'' ⟨rfl, rfl, rfl⟩
      rw [hw2]
      have hnr : (Value.slice va 16 cap).ownBlock ≠ some w1.heap.size := own_ne_block hD.own hD.res (by decide)
      have hnn : (Value.slice va 16 cap).ownBlock ≠ some nb := fun e => by have := hD.far nb e; omega
      have hb4 : Below w1.heap.size w1 ((((wr.setCell ⟨w1.heap.size, 0, none⟩ (.int .u64 p)).setCell ⟨w1.heap.size, 1, none⟩ (.int .u64 d)).setCell ⟨w1.heap.size, 2, none⟩ (.int .u64 r)).setCell ⟨w1.heap.size, 3, none⟩ (.pointer (some ⟨w1.heap.size + 1 + 1, 0, none⟩))) := (((hD.bel.setCell (Nat.le_refl _) _).setCell (Nat.le_refl _) _).setCell (Nat.le_refl _) _).setCell (Nat.le_refl _) _
      have hsv := hD.sv
      have hown4 := ownsRow_setCell_ne (ownsRow_setCell_ne (ownsRow_setCell_ne (ownsRow_setCell_ne (ownsRow_setCell_ne hD.own (a := ⟨w1.heap.size, 0, none⟩) hnr (.int .u64 p)) (a := ⟨w1.heap.size, 1, none⟩) hnr (.int .u64 d)) (a := ⟨w1.heap.size, 2, none⟩) hnr (.int .u64 r)) (a := ⟨w1.heap.size, 3, none⟩) hnr (.pointer (some ⟨w1.heap.size + 1 + 1, 0, none⟩))) (a := ⟨nb, 10, none⟩) hnn (.int .i32 0)
      obtain ⟨g, rfl⟩ : ∃ g, va = some ⟨g, 0, none⟩ := own_some hD.own (by omega)
      refine ⟨.agg #[.int .u64 p, .int .u64 d, .int .u64 r, .pointer (some ⟨w1.heap.size + 1 + 1, 0, none⟩)], ?_, w1.heap.size + 1 + 1, g, cap, rfl, below_back HC.out HW.out hb4, ?_, ?_, hown4⟩
      · simp [results, Ybad.results5, go_sem, t0', t1', t2', t3']
      · have := HS.out; omega
      · rw [blk_setCell_other _ _ _ _ (by show w1.heap.size + 1 + 1 ≠ nb; omega), blk_setCell_other _ _ _ _ (by simp; omega), blk_setCell_other _ _ _ _ (by simp; omega), blk_setCell_other _ _ _ _ (by simp; omega), blk_setCell_other _ _ _ _ (by simp; omega)]
        exact hsv
end Go.Proofs.YbulkbsioDoor
