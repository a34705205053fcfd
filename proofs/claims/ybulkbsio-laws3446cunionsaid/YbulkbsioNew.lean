import Derived.Test.YbulkbsioBase
namespace Go.Proofs.Ybulkbsio
open Go.RowKit Go.Deep

/-- A block of u64 numbers. -/
def U (xs : List Int) : Obj := .cells (xs.map (Value.int .u64)).toArray 24 (0, 0)

def topF (N n r : Nat) : Nat → Value := fun j => if j < r then .slice (some ⟨N + j, 0, none⟩) n n else .slice none 0 0

structure NewRel (w wr : World) (n r : Nat) : Prop where
  bel : Below w.heap.size w wr
  size : wr.heap.size = w.heap.size + 2 + r
  res : wr.heap[w.heap.size]? = some (.cells #[.slice none 0 0, .slice none 0 0] 27 (0, 0))
  top : wr.rowIs (w.heap.size + 1) 32 n (topF (w.heap.size + 2) n r)
  row : ∀ j, j < r → wr.heap[w.heap.size + 2 + j]? = some (U (List.replicate n 0))

theorem U_made (n : Nat) : (Obj.cells (madeCells #[.int .u64 0] n) 24) = U (List.replicate n 0) := by
  unfold U
  congr 1
  apply Array.ext
  · simp [size_madeCells]
  · intro i h1 h2
    simp [madeCells, Nat.mod_one]

theorem newRel_start (w : World) (n : Nat) : NewRel w ((w.alloc (.cells #[.slice none 0 0, .slice none 0 0] 27)).alloc (.cells (madeCells #[.slice none 0 0] n) 32)) n 0 := by
  have h1 := World.rowIs_made (w.alloc (.cells #[.slice none 0 0, .slice none 0 0] 27)) (.slice none 0 0) n 32
  rw [nblk_alloc] at h1
  refine ⟨((Below.refl _ _).alloc (Nat.le_refl _) _).alloc (by simp) _, by simp, ?_, h1.congr (fun j _ => by simp [topF]), fun j hj => absurd hj (Nat.not_lt_zero _)⟩
  rw [blk_alloc_lt _ _ _ (by simp), blk_alloc_new]

theorem newRel_step {w wr : World} {n r : Nat} (h : NewRel w wr n r) (hr : r < n) :
    NewRel w ((wr.alloc (.cells (madeCells #[.int .u64 0] n) 24)).setCell ⟨w.heap.size + 1, r, none⟩ (.slice (some ⟨w.heap.size + 2 + r, 0, none⟩) n n)) n (r + 1) := by
  have hs := h.size
  refine ⟨(h.bel.alloc (by omega) _).setCell (by simp) _, by simp; omega, ?_, ((h.top.alloc _).set r _).congr (fun j _ => ?_), fun j hj => ?_⟩
  · rw [blk_setCell_other _ _ _ _ (by simp), blk_alloc_lt _ _ _ (by omega)]; exact h.res
  · simp only [topF]
    by_cases e : j = r
    · subst e; simp
    · rw [if_neg e]
      by_cases hlt : j < r
      · rw [if_pos hlt, if_pos (by omega)]
      · rw [if_neg hlt, if_neg (by omega)]
  · rw [blk_setCell_other _ _ _ _ (by simp; omega)]
    by_cases e : j = r
    · subst e
      rw [← hs, blk_alloc_new, U_made]
    · rw [blk_alloc_lt _ _ _ (by omega)]
      exact h.row j (by omega)

theorem tab_new {w' : World} {B n : Nat} (h1 : w'.rowIs (B + 1) 32 n (topF (B + 2) n n)) (h2 : ∀ j, j < n → w'.heap[B + 2 + j]? = some (U (List.replicate n 0))) :
    Tab w' (fun k => B ≤ k) n (.slice (some ⟨B + 1, 0, none⟩) n n) (.slice none 0 0) (B + 1) (fun i => B + 2 + i) (fun _ _ => 0) [] where
  hv0 := rfl
  srb := by omega
  top := h1.congr (fun i hi => by simp [topF, hi])
  row := fun i hi => ⟨by omega, ⟨_, h2 i hi, by simp, fun j hj => by simp [hj]⟩⟩
  inj := fun i j _ _ e => by omega
  own := World.ownsRow_nil _ _ _ _
  sown := fun g hg => by simp [Value.ownBlock] at hg
  held := fun r hr => by simp at hr
  apart := fun i r _ hr => by simp at hr
  nodup := by simp

set_option maxHeartbeats 400000 in
theorem newTable_any (n : Nat) (h1 : 1 ≤ n) (h6 : n ≤ 6) (w : World) :
    Calls Yba.prog 16 #[.int .i64 n] w fun e w' => e = .returned (.agg #[.slice (some ⟨w.heap.size + 1, 0, none⟩) n n, .slice none 0 0]) ∧
      Below w.heap.size w w' ∧ w'.heap.size = w.heap.size + 2 + n ∧ Tab w' (fun k => w.heap.size ≤ k) n (.slice (some ⟨w.heap.size + 1, 0, none⟩) n n) (.slice none 0 0) (w.heap.size + 1) (fun i => w.heap.size + 2 + i) (fun _ _ => 0) [] := by
  have hmk22 := run_make_row' (P := Yba.prog) 22 32 (.slice none 0 0) 24 Yba.underlying22 Yba.info32 rfl .i64 .i64 n (by omega) (by omega)
  have hmk32 := run_make_row' (P := Yba.prog) 32 24 (.int .u64 0) 8 Yba.underlying32 Yba.info24 rfl .i64 .i64 n (by omega) (by omega)
  go_enter Yba.func16, Yba.ntmps16
  go_wp2
  go_loopg [9] n (fun g i wr => ∃ r : Nat, r ≤ n ∧ g = n - r ∧ i = .int .i64 r ∧ NewRel w wr n r)
  case atStart => exact ⟨0, Nat.zero_le _, rfl, rfl, newRel_start w n⟩
  case round =>
    obtain ⟨r, hr, rfl, rfl, hO⟩ := hrel
    by_cases hrn : r < n
    · have hst1 : ∀ o, (wr.alloc o).cell? ⟨w.heap.size + 1, r, none⟩ = some (topF (w.heap.size + 2) n r r) := fun o => (hO.top.alloc o).cell hrn
      have hst2 : ∀ o, (wr.alloc o).frozen? ⟨w.heap.size + 1, r, none⟩ = false := fun o => (hO.top.alloc o).frozen r
      have hsize := hO.size
      go_wp2
      go_roundg (n - (r + 1))
      case measure => go_light; omega
      case rel =>
        go_light
        refine ⟨r + 1, by omega, rfl, by go_num, ?_⟩
        exact newRel_step hO hrn
    · have hr' : r = n := by omega
      subst hr'
      have hres := hO.res
      have hc0 : wr.cell? ⟨w.heap.size, 0, none⟩ = some (.slice none 0 0) := by simp [World.cell?, hres]
      have hc1 : wr.cell? ⟨w.heap.size, 1, none⟩ = some (.slice none 0 0) := by simp [World.cell?, hres]
      have hf0 : wr.frozen? ⟨w.heap.size, 0, none⟩ = false := by simp [World.frozen?, hres]
      have hf1 : wr.frozen? ⟨w.heap.size, 1, none⟩ = false := by simp [World.frozen?, hres]
      go_wp2
      refine bodyPost_ret (v := .agg #[.slice (some ⟨w.heap.size + 1, 0, none⟩) r r, .slice none 0 0]) (by simp [results, Yba.results16, go_sem, hc0, hc1]) rfl ⟨rfl, ?_⟩
      refine ⟨(hO.bel.setCell (Nat.le_refl _) _).setCell (Nat.le_refl _) _, by simpa using hO.size, tab_new ?_ fun j hj => ?_⟩
      · exact (hO.top.setOther (by simp) _).setOther (by simp) _
      · rw [blk_setCell_other _ _ _ _ (by simp; omega), blk_setCell_other _ _ _ _ (by simp; omega)]
        exact hO.row j hj
end Go.Proofs.Ybulkbsio
