import Derived.Test.YbulkbsioDoorCounts
namespace Go.Proofs.YbulkbsioDoor
open Go.RowKit Go.Deep Go.RwLone

/-- A value that a struct literal makes, by its run. -/
theorem wpList_build {P : Program} {ops : Array Oper} {rest : List Oper} {o : Oper} {a : Act} {Q : Exit → Act → World → Prop} {w : World} (hg : o.guard = none) (t : TypeId) (l : List (Nat × Operand)) (ho : o.op = .build t l.toArray)
    (vals : List (Nat × Value)) (hv : (l.map fun x => (x.1, a.eval x.2)) = vals) (v : Value) (hrun : (Instr.build t vals.toArray).run P w = .ok v w) (hK : wpList P ops Q rest (a.put o.dst v) w) : wpList P ops Q (o :: rest) a w := by
  refine wpList_plain hg fun K hK' => ?_
  have hv' : (l.toArray.map fun (i, x) => (i, a.eval x)) = vals.toArray := by rw [← hv]; simp
  unfold Oper.wp
  simp only [execOp, ho, hv', Sem.run_bind, hrun, Result.andThen_ok]
  exact hK' _ _ hK

/-- A node's cells: what is not named is zero. -/
def nodeCells (p d r c t : Int) (disk : Value) (W : List Value) : Array Value :=
  (([.int .i32 0, .int .u32 0, .pointer none, .slice none 0 0, .slice none 0 0, .int .u64 0, .int .i32 0, .int .u32 0, .int .u32 0, .int .u32 0, .int .i32 0, .int .i32 0,
    .nilIface, .int .u32 0, .int .u32 0, .int .u64 0, .pointer none, .pointer none, .int .u64 0, .pointer none, .int .u64 0, .bool false, .nilIface, .chan none, disk, .bool false, .slice none 0 0,
    .int .u64 0, .int .u32 0, .nilIface, .int .i32 0, .int .u32 0, .pointer none, .map none, .map none, .int .u64 p, .int .u64 d, .int .u64 r, .int .u64 c, .int .i64 t] : List Value) ++ W ++
    ([.int .u64 0, .int .u64 0, .int .u64 0, .nilFunc, .int .i64 0, .int .i64 0, .int .i32 0, .int .u32 0, .pointer none] : List Value)).toArray

def zeros16 : List Value := [.int .u64 0, .int .u64 0, .int .u64 0, .int .u64 0, .int .u64 0, .int .u64 0, .int .u64 0, .int .u64 0, .int .u64 0, .int .u64 0, .int .u64 0, .int .u64 0, .int .u64 0, .int .u64 0, .int .u64 0, .int .u64 0]

theorem build_node (p d r c t : Int) (w : World) : (Instr.build 74 #[(18, .agg #[.int .u64 p, .int .u64 d, .int .u64 r]), (19, .agg #[.int .u64 c, .int .i64 t, .int .u64 0, .int .u64 0, .int .u64 0, .int .u64 0, .int .u64 0, .int .u64 0, .int .u64 0, .int .u64 0, .int .u64 0, .int .u64 0, .int .u64 0, .int .u64 0, .int .u64 0, .int .u64 0, .int .u64 0, .int .u64 0])]).run Ybad.prog w = .ok (.agg (nodeCells p d r c t .nilIface zeros16)) w := by kernel_rfl

set_option maxHeartbeats 1600000 in
set_option maxRecDepth 100000 in
theorem mem_walk (p d r c t : Int) (w : World) :
    Calls Ybad.prog 3 #[.int .u64 p, .int .u64 d, .int .u64 r, .int .u64 c, .int .i64 t] w fun e w' => e = .returned (.bool true) ∧ Below w.heap.size w w' := by
  have hbn := build_node p d r c t
  obtain ⟨N, hN⟩ : ∃ N, N = nodeCells p d r c t .nilIface zeros16 := ⟨_, rfl⟩
  rw [← hN] at hbn
  have n6 : N[6]? = some (.int .i32 0) := by rw [hN]; rfl
  have n8 : N[8]? = some (.int .u32 0) := by rw [hN]; rfl
  have n9 : N[9]? = some (.int .u32 0) := by rw [hN]; rfl
  have n10 : N[10]? = some (.int .i32 0) := by rw [hN]; rfl
  have n24 : N[24]? = some .nilIface := by rw [hN]; rfl
  have n35 : N[35]? = some (.int .u64 p) := by rw [hN]; rfl
  have n36 : N[36]? = some (.int .u64 d) := by rw [hN]; rfl
  have n37 : N[37]? = some (.int .u64 r) := by rw [hN]; rfl
  have n38 : N[38]? = some (.int .u64 c) := by rw [hN]; rfl
  have n39 : N[39]? = some (.int .i64 t) := by rw [hN]; rfl
  clear hN
  have HB : Hid (∀ w, (Instr.build 74 #[(18, .agg #[.int .u64 p, .int .u64 d, .int .u64 r]), (19, .agg #[.int .u64 c, .int .i64 t, .int .u64 0, .int .u64 0, .int .u64 0, .int .u64 0, .int .u64 0, .int .u64 0, .int .u64 0, .int .u64 0, .int .u64 0, .int .u64 0, .int .u64 0, .int .u64 0, .int .u64 0, .int .u64 0, .int .u64 0, .int .u64 0])]).run Ybad.prog w = .ok (.agg N) w) := hbn
  clear hbn
  go_enter Ybad.func3, Ybad.ntmps3
  go_wp2_with (refine wpList_build rfl 74 [(18, .tmp 16), (19, .tmp 19)] rfl [(18, .agg #[.int .u64 p, .int .u64 d, .int .u64 r]), (19, .agg #[.int .u64 c, .int .i64 t, .int .u64 0, .int .u64 0, .int .u64 0, .int .u64 0, .int .u64 0, .int .u64 0, .int .u64 0, .int .u64 0, .int .u64 0, .int .u64 0, .int .u64 0, .int .u64 0, .int .u64 0, .int .u64 0, .int .u64 0, .int .u64 0])] (by rfl) _ (HB.out _) ?_)
  have hc : ∀ (i : Nat) v, N[i]? = some v → (w.alloc (.cells N 74)).cell? ⟨w.heap.size, i, none⟩ = some v := fun i v h => (cell_of_row _ _ _ _ _ _ (blk_alloc_new _ _)).trans h
  have hz : ∀ (i : Nat), (w.alloc (.cells N 74)).frozen? ⟨w.heap.size, i, none⟩ = false := fun i => by
    have hb := blk_alloc_new w (.cells N 74)
    unfold World.frozen?
    rw [hb]
    simp
  refine (counts_mem w.heap.size p d r _ _ _ _ (hc _ _ n6) (hc _ _ n8) (hc _ _ n9) (hc _ _ n10) (hz 10) (hc _ _ n24) (hc _ _ n35) (hc _ _ n36) (hc _ _ n37)).mono ?_
  rintro e w1 ⟨rfl, hb⟩
  have e35 := cell_later hb (hc _ _ n35)
  have e36 := cell_later hb (hc _ _ n36)
  have e37 := cell_later hb (hc _ _ n37)
  have e38 := cell_later hb (hc _ _ n38)
  have e39 := cell_later hb (hc _ _ n39)
  have hs : w.heap.size < w1.heap.size := by have := hb.size; rw [nblk_alloc] at this; omega
  clear n6 n8 n9 n10 n24 n35 n36 n37 n38 n39 HB hc hz
  go_wp2
  go_ret
  exact ⟨rfl, (((Below.refl _ _).alloc (Nat.le_refl _) _).trans (hb.mono (by simp))).alloc (by omega) _⟩
end Go.Proofs.YbulkbsioDoor
