import Derived.Test.YbulkbsioDoorDiskA
import Derived.Test.YbulkbsioDoorMemW
import Derived.ChangeKeysEq
import Derived.Deep.MidRow
import Derived.BigQuiet
import Derived.Deep.QuietTactic
namespace Go.Proofs.YbulkbsioDoor
open Go.RowKit Go.Deep Go.RwLone

theorem build_bnd (w : World) : (Instr.build 91 #[(0, .int .i64 100000), (1, .int .i64 250000), (2, .int .i64 500000), (3, .int .i64 1000000), (4, .int .i64 2500000), (5, .int .i64 5000000), (6, .int .i64 10000000), (7, .int .i64 25000000), (8, .int .i64 50000000), (9, .int .i64 100000000), (10, .int .i64 250000000), (11, .int .i64 500000000), (12, .int .i64 1000000000), (13, .int .i64 2500000000), (14, .int .i64 5000000000), (15, .int .i64 10000000000)]).run Ybad.prog w = .ok (.agg BA) w := by kernel_rfl

theorem BA_get (m : Nat) (hm : m < 16) : BA[m]? = some (.int .i64 (bnd.getD m 0)) := by
  rcases (show m = 0 ∨ m = 1 ∨ m = 2 ∨ m = 3 ∨ m = 4 ∨ m = 5 ∨ m = 6 ∨ m = 7 ∨ m = 8 ∨ m = 9 ∨ m = 10 ∨ m = 11 ∨ m = 12 ∨ m = 13 ∨ m = 14 ∨ m = 15 by omega) with rfl | rfl | rfl | rfl | rfl | rfl | rfl | rfl | rfl | rfl | rfl | rfl | rfl | rfl | rfl | rfl <;> rfl

set_option maxHeartbeats 1600000 in
set_option maxRecDepth 100000 in
theorem bound_any (m : Nat) (hm : m < 16) (w : World) : Calls Ybad.prog 6 #[.int .i64 m] w fun e w' => e = .returned (.int .i64 (bnd.getD m 0)) ∧ Below w.heap.size w w' := by
  have hg := BA_get m hm
  have hmz : (m : Int) < 16 := by omega
  obtain ⟨bm, hbm⟩ : ∃ bm, bm = bnd.getD m 0 := ⟨_, rfl⟩
  rw [← hbm] at hg ⊢
  clear hbm
  obtain ⟨N, hN⟩ : ∃ N, N = BA := ⟨_, rfl⟩
  rw [← hN] at hg
  have HB : Hid (∀ w, (Instr.build 91 #[(0, .int .i64 100000), (1, .int .i64 250000), (2, .int .i64 500000), (3, .int .i64 1000000), (4, .int .i64 2500000), (5, .int .i64 5000000), (6, .int .i64 10000000), (7, .int .i64 25000000), (8, .int .i64 50000000), (9, .int .i64 100000000), (10, .int .i64 250000000), (11, .int .i64 500000000), (12, .int .i64 1000000000), (13, .int .i64 2500000000), (14, .int .i64 5000000000), (15, .int .i64 10000000000)]).run Ybad.prog w = .ok (.agg N) w) := by rw [hN]; exact build_bnd
  have hs : N.size = 16 := by rw [hN]; rfl
  have hone : N.all (·.oneCell') = true := by rw [hN]; simp [BA, Value.oneCell']
  clear hN
  have hi91 : (Ybad.prog.info? 91).map (·.size) = some N.size := by rw [hs]; kernel_rfl
  have hnew := blk_alloc_new w (.cells #[.int .i64 0, .int .i64 0, .int .i64 0, .int .i64 0, .int .i64 0, .int .i64 0, .int .i64 0, .int .i64 0, .int .i64 0, .int .i64 0, .int .i64 0, .int .i64 0, .int .i64 0, .int .i64 0, .int .i64 0, .int .i64 0] 91)
  have hrow : ∀ o, (w.alloc o).heap[w.heap.size]? = some (.cells #[.int .i64 0, .int .i64 0, .int .i64 0, .int .i64 0, .int .i64 0, .int .i64 0, .int .i64 0, .int .i64 0, .int .i64 0, .int .i64 0, .int .i64 0, .int .i64 0, .int .i64 0, .int .i64 0, .int .i64 0, .int .i64 0] 91 (0, 0)) → ((w.alloc o).setRow w.heap.size N).cell? ⟨w.heap.size, m, none⟩ = some (.int .i64 bm) := fun o h => by
    rw [cell_of_row _ _ _ _ _ _ (setRow_heap _ _ _ N _ _ h)]; exact hg
  have hrow' := hrow _ hnew
  clear hrow hg
  go_enter Ybad.func6, Ybad.ntmps6
  go_wp2_with (first | refine wpList_store_row rfl 91 (.tmp 3) (.tmp 4) rfl w.heap.size N rfl rfl 91 _ hnew hi91 (by rw [hs]; rfl) hone ?_ | refine wpList_build rfl 91 [(0, .const (.int .i64 100000)), (1, .const (.int .i64 250000)), (2, .const (.int .i64 500000)), (3, .const (.int .i64 1000000)), (4, .const (.int .i64 2500000)), (5, .const (.int .i64 5000000)), (6, .const (.int .i64 10000000)), (7, .const (.int .i64 25000000)), (8, .const (.int .i64 50000000)), (9, .const (.int .i64 100000000)), (10, .const (.int .i64 250000000)), (11, .const (.int .i64 500000000)), (12, .const (.int .i64 1000000000)), (13, .const (.int .i64 2500000000)), (14, .const (.int .i64 5000000000)), (15, .const (.int .i64 10000000000))] rfl [(0, .int .i64 100000), (1, .int .i64 250000), (2, .int .i64 500000), (3, .int .i64 1000000), (4, .int .i64 2500000), (5, .int .i64 5000000), (6, .int .i64 10000000), (7, .int .i64 25000000), (8, .int .i64 50000000), (9, .int .i64 100000000), (10, .int .i64 250000000), (11, .int .i64 500000000), (12, .int .i64 1000000000), (13, .int .i64 2500000000), (14, .int .i64 5000000000), (15, .int .i64 10000000000)] (by rfl) _ (HB.out _) ?_)
  go_ret
  refine ⟨rfl, rfl, rfl, rfl, ?_, fun k hk => ?_⟩
  · simp [World.setRow]
  · rw [setRow_other _ _ _ _ (by omega), blk_alloc_lt _ _ _ hk]
theorem eq_cell (z : Int) (w : World) : (Op.equalIn 9999 22 (.int .u64 z) (.int .u64 z)).run Ybad.prog w = .ok true w := by
  rw [run_equalIn_int w 9998 22 .u64 .u64 z z Ybad.underlying22]
  simp

theorem eq_arr (A : Array Value) (z : Nat → Int) (hA : ∀ i, i < 16 → A[i]? = some (.int .u64 (z i))) (w : World) : (Op.equalIn 10000 27 (.agg A) (.agg A)).run Ybad.prog w = .ok true w := by
  obtain ⟨i, hi⟩ : ∃ i, Ybad.prog.info? 22 = some i := Option.isSome_iff_exists.1 (by kernel_rfl)
  have hc : Ybad.prog.cellsOf 22 = 1 := by kernel_rfl
  have ha : ∀ w, (isAgg 22).run Ybad.prog w = .ok false w := fun w => by kernel_rfl
  rw [run_equalIn_array w 9999 A A Ybad.underlying27 hi, hc]
  have hl : ∀ j ∈ List.range 16, j < 16 := fun j hj => List.mem_range.1 hj
  generalize List.range 16 = l at hl ⊢
  induction l with
  | nil => simp [Op.eqItems]
  | cons j l ih =>
    have hj : j < 16 := hl j (by simp)
    have px : (part 22 A (j * 1)).run Ybad.prog w = .ok (.int .u64 (z j)) w := by
      simp [part, Sem.run_bind, ha, hA j hj]
    simp only [Op.eqItems, Sem.run_bind, px, Result.andThen_ok, eq_cell]
    simpa using ih (fun k hk => hl k (by simp [hk]))
def Zw (z : Nat → Int) : Array Value := #[.int .u64 (z 0), .int .u64 (z 1), .int .u64 (z 2), .int .u64 (z 3), .int .u64 (z 4), .int .u64 (z 5), .int .u64 (z 6), .int .u64 (z 7), .int .u64 (z 8), .int .u64 (z 9), .int .u64 (z 10), .int .u64 (z 11), .int .u64 (z 12), .int .u64 (z 13), .int .u64 (z 14), .int .u64 (z 15)]

theorem Zw_get (z : Nat → Int) (m : Nat) (hm : m < 16) : (Zw z)[m]? = some (.int .u64 (z m)) := by
  rcases (show m = 0 ∨ m = 1 ∨ m = 2 ∨ m = 3 ∨ m = 4 ∨ m = 5 ∨ m = 6 ∨ m = 7 ∨ m = 8 ∨ m = 9 ∨ m = 10 ∨ m = 11 ∨ m = 12 ∨ m = 13 ∨ m = 14 ∨ m = 15 by omega) with rfl | rfl | rfl | rfl | rfl | rfl | rfl | rfl | rfl | rfl | rfl | rfl | rfl | rfl | rfl | rfl <;> rfl

def Sw (c t : Int) (z : Nat → Int) : Array Value := #[.int .u64 c, .int .i64 t, .int .u64 (z 0), .int .u64 (z 1), .int .u64 (z 2), .int .u64 (z 3), .int .u64 (z 4), .int .u64 (z 5), .int .u64 (z 6), .int .u64 (z 7), .int .u64 (z 8), .int .u64 (z 9), .int .u64 (z 10), .int .u64 (z 11), .int .u64 (z 12), .int .u64 (z 13), .int .u64 (z 14), .int .u64 (z 15)]

theorem build_syncs (c t : Int) (z : Nat → Int) (w : World) : (Instr.build 29 #[(0, .int .u64 c), (1, .int .i64 t), (2, .agg (Zw z))]).run Ybad.prog w = .ok (.agg (Sw c t z)) w := by kernel_rfl

theorem build_node_disk (p d r c t : Int) (z : Nat → Int) (a : Addr) (w : World) : (Instr.build 74 #[(18, .agg #[.int .u64 p, .int .u64 d, .int .u64 r]), (12, .iface 80 (.pointer (some a))), (19, .agg (Sw c t z))]).run Ybad.prog w = .ok (.agg (nodeCells p d r c t (.iface 80 (.pointer (some a))) (Zw z).toList)) w := by kernel_rfl

theorem node_get40 (p d r c t : Int) (disk : Value) (z : Nat → Int) (m : Nat) (hm : m < 16) : (nodeCells p d r c t disk (Zw z).toList)[40 + m]? = some (.int .u64 (z m)) := by
  rcases (show m = 0 ∨ m = 1 ∨ m = 2 ∨ m = 3 ∨ m = 4 ∨ m = 5 ∨ m = 6 ∨ m = 7 ∨ m = 8 ∨ m = 9 ∨ m = 10 ∨ m = 11 ∨ m = 12 ∨ m = 13 ∨ m = 14 ∨ m = 15 by omega) with rfl | rfl | rfl | rfl | rfl | rfl | rfl | rfl | rfl | rfl | rfl | rfl | rfl | rfl | rfl | rfl <;> rfl

end Go.Proofs.YbulkbsioDoor
