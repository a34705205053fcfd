/-
  '(*loadTally).max': whatever order the map hands its capacities out in, the answer is a largest fraction.
-/
import Derived.Test.YbulkbsjcTally
namespace Go.Proofs.Ybulkbsjc
open Go.RowKit Go.Deep Go.Maps

/-- What 'max' has found among those that have come. -/
def Found (T : Nat → Nat → Nat) (top : Nat → Nat) (left : Nat → Bool) (ld cp : Nat) : Prop :=
  (cp = 0 ∧ ld = 0 ∧ ∀ c, 0 < bins (T c) → left c = true) ∨
  (0 < bins (T cp) ∧ 0 < cp ∧ ld = top cp ∧ ∀ c, 0 < bins (T c) → left c = false → top c * cp ≤ ld * c)

def Best (T : Nat → Nat → Nat) (top : Nat → Nat) (ld cp : Nat) : Prop :=
  (cp = 0 ∧ ld = 0 ∧ ∀ c, ¬ 0 < bins (T c)) ∨ (0 < bins (T cp) ∧ ld = top cp ∧ ∀ c, 0 < bins (T c) → top c * cp ≤ ld * c)

theorem Found.best {T : Nat → Nat → Nat} {top : Nat → Nat} {left : Nat → Bool} {ld cp : Nat} (h : Found T top left ld cp) (hl : ∀ c, left c = false) : Best T top ld cp := by
  rcases h with ⟨h1, h2, h3⟩ | ⟨h1, _, h2, h3⟩
  · exact .inl ⟨h1, h2, fun c hc => by have := h3 c hc; rw [hl] at this; cases this⟩
  · exact .inr ⟨h1, h2, fun c hc => h3 c hc (hl c)⟩

theorem Found.first {T : Nat → Nat → Nat} {top : Nat → Nat} {left : Nat → Bool} {ld : Nat} (h : Found T top left ld 0) {c : Nat} (hc : 0 < bins (T c)) (h0 : 0 < c) :
    Found T top (fun z => left z && !(z == c)) (top c) c := by
  rcases h with ⟨_, _, h3⟩ | ⟨_, h1, _, _⟩
  · refine .inr ⟨hc, h0, rfl, fun c' hc' hl => ?_⟩
    simp only [h3 c' hc', Bool.true_and, Bool.not_eq_false', beq_iff_eq] at hl
    subst hl
    exact Nat.le_refl _
  · omega

theorem Found.turn {T : Nat → Nat → Nat} {top : Nat → Nat} {left : Nat → Bool} {ld cp : Nat} (h : Found T top left ld cp) (hp : 0 < cp) {c : Nat} (hc : 0 < bins (T c)) (h0 : 0 < c)
    (hr : ∀ c, 0 < bins (T c) → 0 < c) (hf : ld * c < top c * cp) : Found T top (fun z => left z && !(z == c)) (top c) c := by
  rcases h with ⟨h1, _, _⟩ | ⟨h1, h2, h3, h4⟩
  · omega
  · refine .inr ⟨hc, h0, rfl, fun c' hc' hl => ?_⟩
    by_cases e : c' = c
    · subst e; exact Nat.le_refl _
    · have hl' : left c' = false := by simpa [e] using hl
      have ha := h4 c' hc' hl'
      have hb := hr c' hc'
      -- top c' * cp ≤ ld * c', ld * c < top c * cp
      have e1 : (top c' * c) * cp ≤ (top c * c') * cp := by
        calc (top c' * c) * cp = (top c' * cp) * c := by rw [Nat.mul_assoc, Nat.mul_comm c cp, ← Nat.mul_assoc]
          _ ≤ (ld * c') * c := Nat.mul_le_mul_right _ ha
          _ = (ld * c) * c' := by rw [Nat.mul_assoc, Nat.mul_comm c' c, ← Nat.mul_assoc]
          _ ≤ (top c * cp) * c' := Nat.mul_le_mul_right _ (Nat.le_of_lt hf)
          _ = (top c * c') * cp := by rw [Nat.mul_assoc, Nat.mul_comm cp c', ← Nat.mul_assoc]
      exact Nat.le_of_mul_le_mul_right e1 h2

theorem Found.stay {T : Nat → Nat → Nat} {top : Nat → Nat} {left : Nat → Bool} {ld cp : Nat} (h : Found T top left ld cp) (hp : 0 < cp) {c : Nat}
    (hf : ¬ ld * c < top c * cp) : Found T top (fun z => left z && !(z == c)) ld cp := by
  rcases h with ⟨h1, _, _⟩ | ⟨h1, h2, h3, h4⟩
  · omega
  · refine .inr ⟨h1, h2, h3, fun c' hc' hl => ?_⟩
    by_cases e : c' = c
    · subst e; omega
    · exact h4 c' hc' (by simpa [e] using hl)

theorem same_small (z c : Nat) : (Lit.int .i64 (z : Int)).sameKey (.int .i64 (c : Int)) = (z == c) := by
  by_cases e : z = c
  · subst e; simp [Lit.sameKey]
  · rw [sameKey_ne (key_ne e)]; simp [e]

set_option maxRecDepth 100000 in
set_option maxHeartbeats 1000000 in
theorem max_any (w : World) (lo k tb bm : Nat) (T : Nat → Nat → Nat) (G : Nat → Nat) (V : Nat → Value) (N top : Nat → Nat) (h : Tal w lo k tb bm T G V N top) :
    Calls Yba.prog 9 #[.pointer (some ⟨tb, 0, none⟩)] w fun e w' => ∃ ld cp : Nat, e = .returned (.tuple #[.int .i64 ld, .int .i64 cp]) ∧ Best T top ld cp ∧ ld < 16 ∧ cp ≤ 8 ∧ w.grownBy w' none := by
  obtain ⟨ov, hrow⟩ := h.htb
  have c0 : w.cell? ⟨tb, 0, none⟩ = some (.map (some bm)) := hrow.cell (by omega)
  obtain ⟨D, hown, hat0, hhas, hkeys⟩ := h.map
  go_enter Yba.func9, Yba.ntmps9
  go_wp2_with (first
    | (at_range; refine wpList_range_own _ rfl _ 29 rfl 3 44 law3 Yba.underlying29 _ bm k D rfl hown ?_; intro w0 hrg0 hg0 hs0)
    | go_in)
  go_loopw [2, 3] (fun s2 s3 wr => ∃ (left : Lit → Bool) (cnt ld cp : Nat), s2 = .int .i64 ld ∧ s3 = .int .i64 cp ∧ ld < 16 ∧ cp ≤ 8 ∧ Found T top (fun c => left (.int .i64 (c : Int))) ld cp ∧ (∀ kl, left kl = true → Maps.has D kl = true) ∧ wr.ranges Yba.prog 3 ptrE bm w.heap.size k D left cnt ∧ w.grownBy wr none)
    (fun _ _ wr => wr.rangeLeft bm w.heap.size)
  case atStart => exact ⟨_, _, 0, 0, rfl, rfl, by omega, by omega, .inl ⟨rfl, rfl, fun c hc => by show Maps.has D (.int .i64 (c : Int)) = true; rw [hhas]; simp [hc]⟩, fun _ h => h, hrg0, hg0⟩
  case round =>
    obtain ⟨left, cnt, ld, cp, rfl, rfl, hld, hcp, hF, hsub, hrg, hgw⟩ := hrel
    go_wp2_with (first
      | (at_next; refine wpList_next_ranges _ rfl _ rfl 3 law3 ptrE (fun x : Int => Value.int .i64 x) ptrV (fun key kl hkey => by obtain ⟨x, rfl, _⟩ := Maps.keyOf_int_inv Yba.underlying3 hkey; exact ⟨x, rfl⟩) (fun v y hv => by obtain ⟨o, rfl, _⟩ := ptrE_inv hv; exact ⟨o, rfl⟩) bm w.heap.size k _ _ _ rfl hrg ?_ ?_)
      | go_in)
    · intro _ hl0
      go_wp2
      go_ret2
      exact ⟨ld, cp, rfl, hF.best (fun c => hl0 _), hld, hcp, hgw⟩
    · intro x o kl y ps w1 cnt1 hkey hlx hy hat hrg1 hlt hg1 hs1 hen
      obtain ⟨x', ex, rfl, hwx⟩ := Maps.keyOf_int_inv Yba.underlying3 hkey
      cases ex
      obtain ⟨c, hc⟩ := hkeys _ (hsub _ hlx)
      injection hc with _ hc
      subst hc
      have hpres : 0 < bins (T c) := by
        have := hhas c
        rw [hsub _ hlx] at this
        by_cases e : 0 < bins (T c)
        · exact e
        · simp [e] at this
      obtain ⟨hc1, hc8⟩ := h.rng c hpres
      have hL := h.lc c hpres
      have ho : o = some (G c) := by
        have h1 := hat0 c
        rw [if_pos hpres, hat] at h1
        rw [ptrE_mk] at hy
        have h2 : DataW.lit (.int .i64 (ptrN o)) = y := (Prod.ext_iff.1 (Option.some.inj hy)).1
        rw [← h2] at h1
        injection h1 with h1
        injection h1 with h1 h3
        exact ptrN_inj h3
      subst ho
      have hgw1 : w.grownBy w1 none := hgw.andThen hg1 (fun j hj => by cases hj; exact .inl (Nat.le_refl _))
      have hL1 : Lc w1 lo (T c) (G c) (V c) (N c) (top c) := hL.of_blocks (hgw1.block _ hL.row.lt (by simp)) (fun b hb => hgw1.block _ (hL.own_lt b hb) (by simp))
      have ct : w1.cell? ⟨G c, 2, none⟩ = some (.int .i64 (top c)) := hL1.row.cell (by omega)
      have htop := hL1.top
      have hn16 := hL1.n16
      have hleft : (fun z : Nat => (fun z => left z && !z.sameKey (.int .i64 (c : Int))) (.int .i64 (z : Int))) = fun z : Nat => (fun z : Nat => left (.int .i64 (z : Int))) z && !(z == c) := by
        funext z; simp only [same_small]
      change _ = Result.ok (Value.tuple #[Value.int .i64 (c : Int), Value.pointer (some ⟨G c, 0, none⟩)]) w1 at hen
      change wpList _ _ _ _ _ _
      simp only [ptrV, Option.map]
      by_cases hz : cp = 0
      · subst hz
        go_wp2_with fail
        go_roundw
        case rel => exact ⟨_, cnt1, top c, c, rfl, rfl, by omega, hc8, by rw [hleft]; exact hF.first hpres (by omega), fun kl hl => hsub kl (by simp at hl; exact hl.1), hrg1, hgw1⟩
        case measure => rw [hrg1.left_eq, hrg.left_eq]; exact hlt
      · have hzb : ((cp : Int) == 0) = false := by simp; omega
        have hp : 0 < cp := by omega
        go_wp2_with fail
        refine (fuller_any (top c) c ld cp (by omega) (by omega) (by omega) (by omega) _).mono ?_
        rintro e w' ⟨rfl, rfl⟩
        by_cases hf : ld * c < top c * cp
        · have hfd : decide (ld * c < top c * cp) = true := by simp [hf]
          rw [hfd]
          go_wp2_with fail
          go_roundw
          case rel => exact ⟨_, cnt1, top c, c, rfl, rfl, by omega, hc8, by rw [hleft]; exact hF.turn hp hpres (by omega) (fun c hc => (h.rng c hc).1) hf, fun kl hl => hsub kl (by simp at hl; exact hl.1), hrg1, hgw1⟩
          case measure => rw [hrg1.left_eq, hrg.left_eq]; exact hlt
        · have hfd : decide (ld * c < top c * cp) = false := by simp [hf]
          rw [hfd]
          go_wp2_with fail
          go_roundw
          case rel => exact ⟨_, cnt1, ld, cp, rfl, rfl, hld, hcp, by rw [hleft]; exact hF.stay hp hf, fun kl hl => hsub kl (by simp at hl; exact hl.1), hrg1, hgw1⟩
          case measure => rw [hrg1.left_eq, hrg.left_eq]; exact hlt
end Go.Proofs.Ybulkbsjc
