import Derived.Test.YbulkbsioCCmp
namespace Go.Proofs.Ybulkbsio
open Go.RowKit Go.Deep

theorem cell_two0 (w : World) (A B : Obj) (x y : Value) : (((w.alloc A).alloc B).alloc (.cells #[x, y] 3)).cell? ⟨w.heap.size + 1 + 1, 0, none⟩ = some x := by
  have := blk_alloc_new ((w.alloc A).alloc B) (.cells #[x, y] 3)
  rw [nblk_alloc, nblk_alloc] at this
  rw [World.cell?, this]
  rfl

theorem cell_two1 (w : World) (A B : Obj) (x y : Value) : (((w.alloc A).alloc B).alloc (.cells #[x, y] 3)).cell? ⟨w.heap.size + 1 + 1, 1, none⟩ = some y := by
  have := blk_alloc_new ((w.alloc A).alloc B) (.cells #[x, y] 3)
  rw [nblk_alloc, nblk_alloc] at this
  rw [World.cell?, this]
  rfl

set_option maxHeartbeats 2000000 in
theorem compare_any (w : World) (n1 f1 n2 f2 : Int) (s1 s2 : Value) :
    Calls Yba.prog 24 #[.agg #[.int .i64 n1, .int .u64 f1, s1], .agg #[.int .i64 n2, .int .u64 f2, s2]] w fun e w' => e = .returned (.int .i64 (cmpR n1 f1 n2 f2)) ∧ Below w.heap.size w w' := by
  have k1 : ∀ w, Calls Yba.prog 33 #[.int .i64 n1, .int .i64 n2] w fun e w' => e = .returned (.int .i64 (cmpF n1 n2)) ∧ w' = w := fun w => cmpI_any w n1 n2
  have k2 : ∀ w, Calls Yba.prog 34 #[.int .u64 f1, .int .u64 f2] w fun e w' => e = .returned (.int .i64 (cmpF f1 f2)) ∧ w' = w := fun w => cmpU_any w f1 f2
  unfold cmpR
  generalize cmpF n1 n2 = x at k1 ⊢
  generalize cmpF f1 f2 = y at k2 ⊢
  have k3 : ∀ (w : World) (A B : Obj), Calls Yba.prog 32 #[.slice (some ⟨w.heap.size + 1 + 1, 0, none⟩) 2 2] (((w.alloc A).alloc B).alloc (.cells #[.int .i64 x, .int .i64 y] 3)).drew fun e w' => e = .returned (.int .i64 (orF x y)) ∧ w' = (((w.alloc A).alloc B).alloc (.cells #[.int .i64 x, .int .i64 y] 3)).drew := fun w A B => or_any _ x y _ (cell_two0 _ _ _ _ _) (cell_two1 _ _ _ _ _)
  generalize orF x y = z at k3 ⊢
  go_enter Yba.func24, Yba.ntmps24
  go_wp2_with fail
  go_region_held3 (fun w' => w'.cell? ⟨w.heap.size, 0, none⟩ = some (.int .i64 n1) ∧ w'.cell? ⟨w.heap.size, 1, none⟩ = some (.int .u64 f1) ∧ w'.cell? ⟨w.heap.size + 1, 0, none⟩ = some (.int .i64 n2) ∧ w'.cell? ⟨w.heap.size + 1, 1, none⟩ = some (.int .u64 f2))
    (go_keep)
    (first | (go_at_call 33; refine (k1 _).mono ?_; rintro e w' ⟨rfl, rfl⟩) | (go_at_call 34; refine (k2 _).mono ?_; rintro e w' ⟨rfl, rfl⟩) | (go_at_call 32; refine (k3 _ _ _).mono ?_; rintro e w' ⟨rfl, rfl⟩))
  all_goals go_wp2
  all_goals go_ret
  all_goals exact ⟨rfl, Below.drew <| (((Below.refl _ _).alloc (Nat.le_refl _) _).alloc (by simp) _).alloc (by simp; omega) _⟩

end Go.Proofs.Ybulkbsio
