/-
  SplitMix64: the finaliser, the generator's step, trialSeed: each by a contract.
-/
import Derived.Test.YbulkbsjcRows
import Derived.WalkKit
import Derived.WalkSpells
import Derived.WalkLawsBesides
namespace Go.Proofs.Ybulkbsjc
open Go.RowKit

def gam : Int := 11400714819323198485
def m1 (z : Int) : Int := IntKind.u64.wrap (bits BinOp.xor IntKind.u64 z (z / 1073741824) * 13787848793156543929)
def m2 (z : Int) : Int := IntKind.u64.wrap (bits BinOp.xor IntKind.u64 z (z / 134217728) * 10723151780598845931)
/-- The finaliser. -/
def mixF (z : Int) : Int := bits BinOp.xor IntKind.u64 (m2 (m1 z)) (m2 (m1 z) / 2147483648)

theorem ret_u64 {a b : Int} (h : a = b) : Ending.returned (.int .u64 a) = .returned (.int .u64 b) := by rw [h]

set_option maxHeartbeats 400000 in
theorem mix_any (z : Int) (w : World) : Calls Yba.prog 6 #[.int .u64 z] w fun e w' => e = .returned (.int .u64 (mixF z)) ∧ w' = w := by
  go_enter Yba.func6, Yba.ntmps6
  go_wp2
  go_ret
  exact ⟨ret_u64 (by unfold mixF m2 m1; rfl), rfl⟩

set_option maxHeartbeats 400000 in
theorem next_any (b : Nat) (s : Int) (w : World) (hc : w.cell? ⟨b, 0, none⟩ = some (.int .u64 s)) (hf : w.frozen? ⟨b, 0, none⟩ = false) :
    Calls Yba.prog 10 #[.pointer (some ⟨b, 0, none⟩)] w fun e w' => e = .returned (.int .u64 (mixF (IntKind.u64.wrap (s + 11400714819323198485)))) ∧ w' = w.setCell ⟨b, 0, none⟩ (.int .u64 (IntKind.u64.wrap (s + 11400714819323198485))) := by
  go_enter Yba.func10, Yba.ntmps10
  go_wp2
  go_ret
  exact ⟨ret_u64 (by unfold mixF m2 m1; rfl), rfl⟩

theorem free_new (w : World) (c : Array Value) (t : TypeId) : (w.alloc (.cells c t)).frozen? ⟨w.heap.size, 0, none⟩ = false := by
  unfold World.frozen?
  rw [heap_alloc_new]
  simp

set_option maxHeartbeats 400000 in
theorem seed_any (s t : Int) (w : World) :
    Calls Yba.prog 7 #[.int .u64 s, .int .u64 t] w fun e w' => e = .returned (.int .u64 (mixF (IntKind.u64.wrap (IntKind.u64.wrap (s + IntKind.u64.wrap (t * 11400714819323198485)) + 11400714819323198485)))) ∧ Below w.heap.size w w' := by
  go_enter Yba.func7, Yba.ntmps7
  go_wp2_with fail
  refine (next_any w.heap.size _ _ ((cell_of_row _ _ _ _ _ _ (heap_alloc_new _ _)).trans rfl) (free_new w _ 42)).mono ?_
  rintro e w1 ⟨rfl, rfl⟩
  go_wp2
  go_ret
  exact ⟨rfl, (Below.refl _ _).alloc (Nat.le_refl _) _⟩

/-! ### The plain laws -/
theorem wrap_u64 (n : Int) : IntKind.u64.wrap n = n % 18446744073709551616 := IntKind.wrap_u64 n

theorem step_eq (s : Int) (k : Nat) : IntKind.u64.wrap (IntKind.u64.wrap (s + k * 11400714819323198485) + 11400714819323198485) = IntKind.u64.wrap (s + ((k + 1 : Nat) : Int) * 11400714819323198485) := by
  simp only [wrap_u64]; omega

theorem seed_eq (s : Int) (n : Nat) : IntKind.u64.wrap (IntKind.u64.wrap (s + IntKind.u64.wrap ((n : Int) * 11400714819323198485)) + 11400714819323198485) = IntKind.u64.wrap (s + ((n + 1 : Nat) : Int) * 11400714819323198485) := by
  simp only [wrap_u64]; omega

theorem shift_eq (s t : Int) : IntKind.u64.wrap (IntKind.u64.wrap (s + IntKind.u64.wrap (IntKind.u64.wrap (t + 1) * 11400714819323198485)) + 11400714819323198485) =
    IntKind.u64.wrap (IntKind.u64.wrap (IntKind.u64.wrap (s + 11400714819323198485) + IntKind.u64.wrap (t * 11400714819323198485)) + 11400714819323198485) := by
  simp only [wrap_u64]; omega

end Go.Proofs.Ybulkbsjc
