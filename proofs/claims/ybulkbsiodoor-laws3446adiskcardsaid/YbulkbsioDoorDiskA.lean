import Derived.Test.YbulkbsioDoorCounts
import Derived.Deep.CutBlock
import Derived.Deep.DeepCutAuto
namespace Go.Proofs.YbulkbsioDoor
open Go.RowKit Go.Deep Go.RwLone
attribute [local go_sem ↓] Go.wp_at_zero Go.wp_at_succ

def bnd : List Int := [100000, 250000, 500000, 1000000, 2500000, 5000000, 10000000, 25000000, 50000000, 100000000, 250000000, 500000000, 1000000000, 2500000000, 5000000000, 10000000000]
def BA : Array Value := #[.int .i64 100000, .int .i64 250000, .int .i64 500000, .int .i64 1000000, .int .i64 2500000, .int .i64 5000000, .int .i64 10000000, .int .i64 25000000, .int .i64 50000000, .int .i64 100000000, .int .i64 250000000, .int .i64 500000000, .int .i64 1000000000, .int .i64 2500000000, .int .i64 5000000000, .int .i64 10000000000]

theorem index_bnd (m : Nat) (hm : m < 16) (w : World) : (Instr.index 90 (.agg BA) (.int .i64 m)).run Ybad.prog w = .ok (.int .i64 (bnd.getD m 0)) w := by
  rcases (show m = 0 ∨ m = 1 ∨ m = 2 ∨ m = 3 ∨ m = 4 ∨ m = 5 ∨ m = 6 ∨ m = 7 ∨ m = 8 ∨ m = 9 ∨ m = 10 ∨ m = 11 ∨ m = 12 ∨ m = 13 ∨ m = 14 ∨ m = 15 by omega) with rfl | rfl | rfl | rfl | rfl | rfl | rfl | rfl | rfl | rfl | rfl | rfl | rfl | rfl | rfl | rfl <;> kernel_rfl

theorem Ybad.info87 : (Ybad.prog.info? 87).map (fun i => (i.zero, i.size, i.bytes)) = some (some (.agg #[.int .i64 0, .int .u64 0]), 2, 16) := by kernel_rfl

/-- The buckets gathered so far. -/
def bks (W : Nat → Int) (m : Nat) : List Value := (List.range m).flatMap fun i => [.int .i64 (bnd.getD i 0), .int .u64 (W i)]
theorem bks_succ (W : Nat → Int) (m : Nat) : bks W (m + 1) = bks W m ++ [.int .i64 (bnd.getD m 0), .int .u64 (W m)] := by
  simp [bks, List.range_succ, List.flatMap_append]
theorem bks_len (W : Nat → Int) (m : Nat) : (bks W m).length = m * 2 := by
  induction m with
  | zero => rfl
  | succ m ih => rw [bks_succ, List.length_append, ih]; simp; omega

/-- The world in the loop of Counts: the result, c, the SyncTimes and its buckets. -/
structure Dk (w1 wr : World) (p d r c t : Int) (W : Nat → Int) (v : Value) (m : Nat) : Prop where
  bel : Below w1.heap.size w1 wr
  res : wr.heap[w1.heap.size]? = some (.cells #[.int .u64 0, .int .u64 0, .int .u64 0, .pointer none] 77 (0, 0))
  cv : wr.heap[w1.heap.size + 1]? = some (.cells #[.int .u64 p, .int .u64 d, .int .u64 r, .pointer (some ⟨w1.heap.size + 1 + 1, 0, none⟩)] 77 (0, 0))
  sv : wr.heap[w1.heap.size + 1 + 1]? = some (.cells #[.int .u64 c, .int .i64 t, v] 85 (0, 0))
  own : wr.ownsRow 0 87 2 v m (bks W m)
  far : ∀ g, v.ownBlock = some g → w1.heap.size ≤ g

theorem dk_start (w1 : World) (p d r c t : Int) (W : Nat → Int) : Dk w1 (((w1.alloc (.cells #[.int .u64 0, .int .u64 0, .int .u64 0, .pointer none] 77)).alloc (.cells #[.int .u64 p, .int .u64 d, .int .u64 r, .pointer (some ⟨w1.heap.size + 1 + 1, 0, none⟩)] 77)).alloc (.cells #[.int .u64 c, .int .i64 t, .slice none 0 0] 85)).drew.drew p d r c t W (.slice none 0 0) 0 where
  bel := (((((Below.refl _ _).alloc (Nat.le_refl _) _).alloc (by simp) _).alloc (by simp; omega) _).drew).drew
  res := by
    show (((w1.alloc _).alloc _).alloc _).heap[w1.heap.size]? = _
    rw [blk_alloc_lt _ _ _ (by simp; omega), blk_alloc_lt _ _ _ (by simp), blk_alloc_new]
  cv := by
    show (((w1.alloc _).alloc _).alloc _).heap[w1.heap.size + 1]? = _
    rw [blk_alloc_lt _ _ _ (by simp)]
    have := blk_alloc_new (w1.alloc (.cells #[.int .u64 0, .int .u64 0, .int .u64 0, .pointer none] 77)) (.cells #[.int .u64 p, .int .u64 d, .int .u64 r, .pointer (some ⟨w1.heap.size + 1 + 1, 0, none⟩)] 77)
    rw [nblk_alloc] at this
    exact this
  sv := by
    show (((w1.alloc _).alloc _).alloc _).heap[w1.heap.size + 1 + 1]? = _
    have := blk_alloc_new ((w1.alloc (.cells #[.int .u64 0, .int .u64 0, .int .u64 0, .pointer none] 77)).alloc (.cells #[.int .u64 p, .int .u64 d, .int .u64 r, .pointer (some ⟨w1.heap.size + 1 + 1, 0, none⟩)] 77)) (.cells #[.int .u64 c, .int .i64 t, .slice none 0 0] 85)
    rw [nblk_alloc, nblk_alloc] at this
    exact this
  own := World.ownsRow_nil _ _ _ _
  far := fun g hg => by simp [Value.ownBlock] at hg

theorem far3 {w : World} {a : Addr} {v : Option Value} {o o' o'' : Obj} (hl : a.block < w.heap.size) (h : w.cell? a = v) : (((w.alloc o).alloc o').alloc o'').drew.drew.cell? a = v := by
  rw [← h]
  show (((w.alloc o).alloc o').alloc o'').cell? a = _
  rw [World.cell?_of_block (blk_alloc_lt _ _ _ (by rw [nblk_alloc, nblk_alloc]; omega)), World.cell?_of_block (blk_alloc_lt _ _ _ (by rw [nblk_alloc]; omega)), World.cell?_of_block (blk_alloc_lt _ _ _ hl)]

theorem own_ne_block {w : World} {b e size n b' t : Nat} {v : Value} {xs : List Value} {c : Array Value} {z : Nat × Nat} (h : w.ownsRow b e size v n xs) (hb : w.heap[b']? = some (.cells c t z)) (ht : t ≠ e) : v.ownBlock ≠ some b' := by
  intro he
  rcases h.2 with ⟨hv, _⟩ | ⟨g', cap, cur, hv, _, hgg, _⟩
  · rw [hv] at he; simp [Value.ownBlock] at he
  · rw [hv] at he
    simp [Value.ownBlock] at he
    subst he
    rw [hgg] at hb
    simp at hb
    exact ht hb.2.1.symm

theorem own_form {w : World} {b e size n : Nat} {v : Value} {xs : List Value} (h : w.ownsRow b e size v n xs) : ∃ va cap, v = .slice va n cap := by
  rcases h.2 with ⟨hv, h0⟩ | ⟨g, cap, cur, hv, _⟩
  · exact ⟨none, 0, by rw [hv, h0]⟩
  · exact ⟨_, cap, hv⟩

theorem ownsRow_setCell_ne {w : World} {e : TypeId} {size : Nat} {v : Value} {m : Nat} {xs : List Value} (h : w.ownsRow 0 e size v m xs) {a : Addr} (ha : v.ownBlock ≠ some a.block) (u : Value) : (w.setCell a u).ownsRow 0 e size v m xs := by
  obtain ⟨h1, h2⟩ := h
  refine ⟨h1, ?_⟩
  rcases h2 with h2 | ⟨g, cap, cur, hv, hg, hh, r⟩
  · exact Or.inl h2
  · exact Or.inr ⟨g, cap, cur, hv, hg, by rw [blk_setCell_other _ _ _ _ (fun e => ha (by rw [hv, ← e]; rfl))]; exact hh, r⟩

theorem own_some {w : World} {b e size n cap : Nat} {va : Option Addr} {xs : List Value} (h : w.ownsRow b e size (.slice va n cap) n xs) (hn : 0 < n) : ∃ g, va = some ⟨g, 0, none⟩ := by
  rcases h.2 with ⟨hv, h0⟩ | ⟨g, cap', cur, hv, _⟩
  · omega
  · simp only [Value.slice.injEq] at hv
    exact ⟨g, hv.1⟩

theorem frozen_alloc_far {w : World} {a : Addr} {b : Bool} (o : Obj) (hlt : a.block < w.heap.size) (h : w.frozen? a = b) : (w.alloc o).drew.frozen? a = b := by
  rw [← h]; exact World.frozen?_of_block (blk_alloc_lt _ _ _ hlt)
theorem cell_alloc_far {w : World} {a : Addr} {v : Option Value} (o : Obj) (hlt : a.block < w.heap.size) (h : w.cell? a = v) : (w.alloc o).drew.cell? a = v := by
  rw [← h]; exact World.cell?_of_block (blk_alloc_lt _ _ _ hlt)

theorem Dk.append {w1 wr w2 : World} {p d r c t : Int} {W : Nat → Int} {va : Option Addr} {m cap g cap' : Nat} {o : Obj} {bm : Int} (h : Dk w1 wr p d r c t W (.slice va m cap) m) (hbm : bm = bnd.getD m 0)
    (hown : w2.ownsRow 0 87 2 (.slice (some ⟨g, 0, none⟩) (m + 1) cap') (m + 1) (bks W m ++ [.int .i64 bm, .int .u64 (W m)])) (hgrow : (wr.alloc o).drew.grownBy w2 (Value.slice va m cap).ownBlock) (hat : (Value.slice va m cap).ownBlock = some g ∨ g = wr.heap.size + 1) :
    Dk w1 (w2.setCell ⟨w1.heap.size + 1 + 1, 2, none⟩ (.slice (some ⟨g, 0, none⟩) (m + 1) cap')) p d r c t W (.slice (some ⟨g, 0, none⟩) (m + 1) cap') (m + 1) := by
  have hsz : wr.heap.size ≤ w2.heap.size := by
    have := hgrow.size
    rw [show (wr.alloc o).drew.heap.size = (wr.alloc o).heap.size from rfl, nblk_alloc] at this
    omega
  have hk : ∀ k, k < wr.heap.size → (Value.slice va m cap).ownBlock ≠ some k → w2.heap[k]? = wr.heap[k]? := fun k hk hne => by
    rw [hgrow.block k (by rw [show (wr.alloc o).drew.heap.size = (wr.alloc o).heap.size from rfl, nblk_alloc]; omega) (fun e => hne e.symm)]
    exact blk_alloc_lt _ _ _ hk
  have hsv : w2.heap[w1.heap.size + 1 + 1]? = some (.cells #[.int .u64 c, .int .i64 t, .slice va m cap] 85 (0, 0)) := by
    rw [hk _ (Array.getElem?_eq_some_iff.1 h.sv).1 (own_ne_block h.own h.sv (by decide))]; exact h.sv
  refine ⟨?_, ?_, ?_, ?_, ?_, ?_⟩
  · refine (h.bel.trans ⟨hgrow.os, hgrow.tape, hgrow.output, hsz, fun k hlt => hk k (by have := h.bel.size; omega) (fun e => ?_)⟩).setCell (by show w1.heap.size ≤ w1.heap.size + 1 + 1; omega) _
    have := h.far k e
    omega
  · rw [blk_setCell_other _ _ _ _ (by simp; omega), hk _ (Array.getElem?_eq_some_iff.1 h.res).1 (own_ne_block h.own h.res (by decide))]; exact h.res
  · rw [blk_setCell_other _ _ _ _ (by simp), hk _ (Array.getElem?_eq_some_iff.1 h.cv).1 (own_ne_block h.own h.cv (by decide))]; exact h.cv
  · simp [World.setCell, Array.getElem?_modify, hsv]
  · rw [bks_succ, ← hbm]
    exact ownsRow_setCell_ne hown (own_ne_block hown hsv (by decide)) _
  · intro g' hg'
    simp [Value.ownBlock] at hg'
    subst hg'
    rcases hat with e | e
    · exact h.far g e
    · have := h.bel.size; omega

end Go.Proofs.YbulkbsioDoor
