import Derived.Test.YbulkbsioDoorRows
import Derived.Test.YbulkbsioDoorLocks
import Derived.Conc.RwLone
import Derived.WalkKit
import Derived.WalkSpells
import Derived.WalkLawsBesides
import Derived.Deep.OwnRows
import Derived.Deep.LoopGhost
import Derived.Deep.Light
import Derived.Deep.RegionHeld3
import Derived.Deep.RegionLaw
import Derived.Deep.AppendLies
import Derived.Deep.DrawnRows
import Derived.Deep.DeepMust
namespace Go.Proofs.YbulkbsioDoor
open Go.RowKit Go.Deep Go.RwLone
attribute [local go_sem ↓] Go.wp_at_zero Go.wp_at_succ

theorem far2 {w : World} {a : Addr} {v : Option Value} {o o' : Obj} (hl : a.block < w.heap.size) (h : w.cell? a = v) : ((w.alloc o).alloc o').drew.cell? a = v := by
  rw [← h]
  show ((w.alloc o).alloc o').cell? a = _
  rw [World.cell?_of_block (blk_alloc_lt _ _ _ (by rw [nblk_alloc]; omega)), World.cell?_of_block (blk_alloc_lt _ _ _ hl)]
theorem farz2 {w : World} {a : Addr} {v : Bool} {o o' : Obj} (hl : a.block < w.heap.size) (h : w.frozen? a = v) : ((w.alloc o).alloc o').drew.frozen? a = v := by
  rw [← h]
  show ((w.alloc o).alloc o').frozen? a = _
  rw [World.frozen?_of_block (blk_alloc_lt _ _ _ (by rw [nblk_alloc]; omega)), World.frozen?_of_block (blk_alloc_lt _ _ _ hl)]

theorem set_back (c : Array Value) (i : Nat) (x y : Value) (h : c[i]? = some y) : (c.setIfInBounds i x).setIfInBounds i y = c := by
  apply Array.ext_getElem?
  intro j
  rw [Array.getElem?_setIfInBounds, Array.getElem?_setIfInBounds]
  by_cases e : i = j
  · subst e
    obtain ⟨hlt, hy⟩ := Array.getElem?_eq_some_iff.1 h
    simp [hlt, hy]
  · simp [e]

/-- A cell that is written and written back. -/
theorem below_back {w w1 w2 : World} {b i : Nat} {x y : Value} (hc : w.cell? ⟨b, i, none⟩ = some y) (h1 : w1 = w.setCell ⟨b, i, none⟩ x) (h2 : Below w1.heap.size w1 w2) : Below w.heap.size w (w2.setCell ⟨b, i, none⟩ y) := by
  have hl : b < w.heap.size := World.block_lt_of_cell? w _ hc
  have hs : w1.heap.size = w.heap.size := by rw [h1]; simp
  refine ⟨?_, ?_, ?_, ?_, fun k hk => ?_⟩
  · show w2.os = w.os
    rw [h2.os, h1]; rfl
  · show w2.tape = w.tape
    rw [h2.tape, h1]; rfl
  · show w2.output = w.output
    rw [h2.output, h1]; rfl
  · rw [nblk_setCell]; have := h2.size; omega
  · by_cases e : k = b
    · subst e
      unfold World.cell? at hc
      cases hb : w.heap[k]? with
      | none => rw [hb] at hc; simp at hc
      | some o =>
        rw [hb] at hc
        cases o with
        | cells c t z =>
          simp at hc
          have e1 : w1.heap[k]? = some (.cells (c.setIfInBounds i x) t z) := by rw [h1]; simp [World.setCell, Array.getElem?_modify, hb]
          have e2 : w2.heap[k]? = some (.cells (c.setIfInBounds i x) t z) := by rw [h2.block k (by omega), e1]
          have e3 : (w2.setCell ⟨k, i, none⟩ y).heap[k]? = some (.cells ((c.setIfInBounds i x).setIfInBounds i y) t z) := by simp [World.setCell, Array.getElem?_modify, e2]
          rw [e3, set_back c i x y hc]
        | _ => simp at hc
    · rw [blk_setCell_other _ _ _ _ e, h2.block k (by omega), h1, blk_setCell_other _ _ _ _ e]

set_option maxHeartbeats 1600000 in
set_option maxRecDepth 100000 in
theorem counts_mem (nb : Nat) (p d r : Int) (x0 x2 x3 : Value) (w : World) (c6 : w.cell? ⟨nb, 6, none⟩ = some x0) (c8 : w.cell? ⟨nb, 8, none⟩ = some x2) (c9 : w.cell? ⟨nb, 9, none⟩ = some x3) (c10 : w.cell? ⟨nb, 10, none⟩ = some (.int .i32 0)) (f10 : w.frozen? ⟨nb, 10, none⟩ = false)
    (c24 : w.cell? ⟨nb, 24, none⟩ = some .nilIface) (c35 : w.cell? ⟨nb, 35, none⟩ = some (.int .u64 p)) (c36 : w.cell? ⟨nb, 36, none⟩ = some (.int .u64 d)) (c37 : w.cell? ⟨nb, 37, none⟩ = some (.int .u64 r)) :
    Calls Ybad.prog 5 #[.pointer (some ⟨nb, 0, none⟩)] w fun e w' => e = .returned (.agg #[.int .u64 p, .int .u64 d, .int .u64 r, .pointer none]) ∧ Below w.heap.size w w' := by
  have hl : nb < w.heap.size := World.block_lt_of_cell? w _ c6
  have hw1 : wrap32 ((0 : Int) + 1) = 1 := by simp [wrap32]
  have hw2 : wrap32 ((1 : Int) + -1) = 0 := by simp [wrap32]
  have hne : ∀ o, nb ≠ w.heap.size + o := fun o => by omega
  have fa : ∀ o (x : Nat), (w.alloc o).cell? ⟨nb, x, none⟩ = w.cell? ⟨nb, x, none⟩ := fun o x => World.cell?_of_block (blk_alloc_lt _ _ _ hl)
  have fz : ∀ o (x : Nat), (w.alloc o).frozen? ⟨nb, x, none⟩ = w.frozen? ⟨nb, x, none⟩ := fun o x => World.frozen?_of_block (blk_alloc_lt _ _ _ hl)
  go_enter_defers Ybad.func5, Ybad.ntmps5
  go_wp2_with fail
  refine (rlock_open Ybad.rwRLib nb 6 0 x0 x3 _ ?_ ?_ ?_ ?_ ?_).mono ?_
  · rw [fa]; exact c6
  · rw [fa]; exact c9
  · rw [fa]; exact c10
  · rw [fz]; exact f10
  · rw [hw1]; omega
  rintro e w1 ⟨rfl, rfl⟩
  rw [hw1]
  clear hne
  go_wp2
  obtain ⟨w1, hw⟩ : ∃ w1, w1 = w.setCell ⟨nb, 10, none⟩ (.int .i32 1) := ⟨_, rfl⟩
  rw [← hw]
  have HW : Hid (w1 = w.setCell ⟨nb, 10, none⟩ (.int .i32 1)) := hw
  have hs : w1.heap.size = w.heap.size := by rw [hw]; simp
  have e35 : w1.cell? ⟨nb, 35, none⟩ = some (.int .u64 p) := by rw [hw, World.cell?_setCell_other _ _ _ _ (by simp)]; exact c35
  have e36 : w1.cell? ⟨nb, 36, none⟩ = some (.int .u64 d) := by rw [hw, World.cell?_setCell_other _ _ _ _ (by simp)]; exact c36
  have e37 : w1.cell? ⟨nb, 37, none⟩ = some (.int .u64 r) := by rw [hw, World.cell?_setCell_other _ _ _ _ (by simp)]; exact c37
  have e24 : w1.cell? ⟨nb, 24, none⟩ = some .nilIface := by rw [hw, World.cell?_setCell_other _ _ _ _ (by simp)]; exact c24
  have e6 : w1.cell? ⟨nb, 6, none⟩ = some x0 := by rw [hw, World.cell?_setCell_other _ _ _ _ (by simp)]; exact c6
  have e8 : w1.cell? ⟨nb, 8, none⟩ = some x2 := by rw [hw, World.cell?_setCell_other _ _ _ _ (by simp)]; exact c8
  have e10 : w1.cell? ⟨nb, 10, none⟩ = some (.int .i32 1) := by rw [hw]; exact World.cell?_setCell_same _ _ _ c10
  have z10 : w1.frozen? ⟨nb, 10, none⟩ = false := by rw [hw]; simpa using f10
  clear hw
  rw [← hs]
  have HC : Hid (w.cell? ⟨nb, 10, none⟩ = some (.int .i32 0)) := c10
  clear c6 c8 c9 c10 f10 c24 c35 c36 c37 fa fz
  have hl1 : nb < w1.heap.size := World.block_lt_of_cell? w1 _ e6
  clear hs hl
  go_region_held3 (fun w' => w'.cell? ⟨nb, 35, none⟩ = some (.int .u64 p) ∧ w'.cell? ⟨nb, 36, none⟩ = some (.int .u64 d) ∧ w'.cell? ⟨nb, 37, none⟩ = some (.int .u64 r)) (go_keep) (fail)
  have hnl : nb ≠ w1.heap.size := by omega
  have hnl1 : nb ≠ w1.heap.size + 1 := by omega
  go_wp2
  refine leaves_cons (f := 8) (args := #[.pointer (some ⟨nb, 6, none⟩)]) (by simp) (by simp [go_sem]) ?_
  refine (runlock_deferred Ybad.rwRLib nb 6 1 x0 x2 .returning _ ?_ ?_ ?_ ?_ ?_).mono ?_
  · exact far2 hl1 e6
  · exact far2 hl1 e8
  · exact far2 hl1 e10
  · exact farz2 hl1 z10
  · rw [hw2]; omega
  rintro e u' w'' ⟨rfl, rfl, rfl⟩
  rw [hw2]
  refine ⟨.agg #[.int .u64 p, .int .u64 d, .int .u64 r, .pointer none], ?_, rfl, ?_⟩
  · simp [results, Ybad.results5, go_sem]
  · exact below_back HC.out HW.out ((((Below.refl _ _).alloc (Nat.le_refl _) _).alloc (by simp) _).drew)
end Go.Proofs.YbulkbsioDoor
