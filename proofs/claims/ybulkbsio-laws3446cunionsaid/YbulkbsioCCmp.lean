import Derived.Test.YbulkbsioHolds
namespace Go.Proofs.Ybulkbsio
open Go.RowKit Go.Deep

def cmpF (a b : Int) : Int := if a < b then -1 else if b < a then 1 else 0
def orF (x y : Int) : Int := if x ≠ 0 then x else y
/-- compareRuns, plain. -/
def cmpR (n1 f1 n2 f2 : Int) : Int := orF (cmpF n1 n2) (cmpF f1 f2)

theorem ret_i64 {a b : Int} (h : a = b) : Ending.returned (.int .i64 a) = .returned (.int .i64 b) := by rw [h]

theorem cmpI_any (w : World) (a b : Int) : Calls Yba.prog 33 #[.int .i64 a, .int .i64 b] w fun e w' => e = .returned (.int .i64 (cmpF a b)) ∧ w' = w := by
  generalize hz : cmpF a b = z
  by_cases h1 : a < b
  · have g1 : decide (a < b) = true := by simp [h1]
    have : z = -1 := by rw [← hz]; simp [cmpF, h1]
    clear hz h1
    go_enter Yba.func33, Yba.ntmps33
    go_wp2
    go_ret
    exact ⟨ret_i64 (by omega), rfl⟩
  · have g1 : decide (a < b) = false := by simp [h1]
    by_cases h2 : b < a
    · have g2 : decide (b < a) = true := by simp [h2]
      have : z = 1 := by rw [← hz]; simp [cmpF, h1, h2]
      clear hz h1 h2
      go_enter Yba.func33, Yba.ntmps33
      go_wp2
      go_ret
      exact ⟨ret_i64 (by omega), rfl⟩
    · have g2 : decide (b < a) = false := by simp [h2]
      have : z = 0 := by rw [← hz]; simp [cmpF, h1, h2]
      clear hz h1 h2
      go_enter Yba.func33, Yba.ntmps33
      go_wp2
      go_ret
      exact ⟨ret_i64 (by omega), rfl⟩

theorem cmpU_any (w : World) (a b : Int) : Calls Yba.prog 34 #[.int .u64 a, .int .u64 b] w fun e w' => e = .returned (.int .i64 (cmpF a b)) ∧ w' = w := by
  generalize hz : cmpF a b = z
  by_cases h1 : a < b
  · have g1 : decide (a < b) = true := by simp [h1]
    have : z = -1 := by rw [← hz]; simp [cmpF, h1]
    clear hz h1
    go_enter Yba.func34, Yba.ntmps34
    go_wp2
    go_ret
    exact ⟨ret_i64 (by omega), rfl⟩
  · have g1 : decide (a < b) = false := by simp [h1]
    by_cases h2 : b < a
    · have g2 : decide (b < a) = true := by simp [h2]
      have : z = 1 := by rw [← hz]; simp [cmpF, h1, h2]
      clear hz h1 h2
      go_enter Yba.func34, Yba.ntmps34
      go_wp2
      go_ret
      exact ⟨ret_i64 (by omega), rfl⟩
    · have g2 : decide (b < a) = false := by simp [h2]
      have : z = 0 := by rw [← hz]; simp [cmpF, h1, h2]
      clear hz h1 h2
      go_enter Yba.func34, Yba.ntmps34
      go_wp2
      go_ret
      exact ⟨ret_i64 (by omega), rfl⟩

theorem or_any (w : World) (x y : Int) (b : Nat) (c0 : w.cell? ⟨b, 0, none⟩ = some (.int .i64 x)) (c1 : w.cell? ⟨b, 1, none⟩ = some (.int .i64 y)) :
    Calls Yba.prog 32 #[.slice (some ⟨b, 0, none⟩) 2 2] w fun e w' => e = .returned (.int .i64 (orF x y)) ∧ w' = w := by
  generalize hz : orF x y = z
  have HZ : Hid (orF x y = z) := hz
  clear hz
  have hb : b < w.heap.size := by
    by_cases h : b < w.heap.size
    · exact h
    · exfalso
      rw [World.cell?, Array.getElem?_eq_none (by simpa using h)] at c0
      simp at c0
  go_enter Yba.func32, Yba.ntmps32
  go_wp2
  go_loopg [8] 2 (fun g i wr => ∃ m : Nat, m ≤ 2 ∧ g = 2 - m ∧ i = .int .i64 m ∧ wr = w ∧ (0 < m → x = 0) ∧ (1 < m → y = 0))
  case atStart => exact ⟨0, by omega, rfl, rfl, rfl, by omega, by omega⟩
  case round =>
    obtain ⟨m, hm, rfl, rfl, rfl, h0, h1⟩ := hrel
    have H0 : Hid (0 < m → x = 0) := h0
    have H1 : Hid (1 < m → y = 0) := h1
    clear h0 h1
    have hm3 : m = 0 ∨ m = 1 ∨ m = 2 := by omega
    rcases hm3 with rfl | rfl | rfl
    · by_cases e : x = 0
      · have g1 : (x == 0) = true := by simp [e]
        have HX : Hid (x = 0) := e
        clear e
        go_wp2
        go_roundg 1
        case measure => go_light; omega
        case rel => go_light; exact ⟨1, by omega, rfl, by go_num, rfl, fun _ => HX.out, by omega⟩
      · have g1 : (x == 0) = false := by simp [e]
        have HX : Hid (x = z) := by have := HZ.out; rw [Hid, ← this]; simp [orF, e]
        clear e
        go_wp2
        go_ret
        exact ⟨ret_i64 HX.out, rfl⟩
    · have hx := H0.out (by omega)
      by_cases e : y = 0
      · have g1 : (y == 0) = true := by simp [e]
        have HX : Hid (x = 0) := hx
        have HY : Hid (y = 0) := e
        clear e hx
        go_wp2
        go_roundg 0
        case measure => go_light; omega
        case rel => go_light; exact ⟨2, by omega, rfl, by go_num, rfl, fun _ => HX.out, fun _ => HY.out⟩
      · have g1 : (y == 0) = false := by simp [e]
        have HX : Hid (y = z) := by have := HZ.out; rw [Hid, ← this]; simp [orF, hx]
        clear e hx
        go_wp2
        go_ret
        exact ⟨ret_i64 HX.out, rfl⟩
    · have HX : Hid (0 = z) := by have := HZ.out; rw [Hid, ← this]; simp [orF, H0.out (by omega), H1.out (by omega)]
      go_wp2
      go_ret
      exact ⟨ret_i64 HX.out, rfl⟩

end Go.Proofs.Ybulkbsio
