import Derived.Test.YbulkbsioBuild
import Derived.Test.YbulkbsioLower
namespace Go.Proofs.Ybulkbsio
open Go.RowKit Go.Deep

/-- Two tables, t lowered, before as it was built, when the law begins to compare. -/
structure Duo (w W : World) (nn tb1 tb2 : Nat) (va1 va2 : Option Addr) (rb1 rb2 ul cap1 cap2 : Nat) (R1 R2 : Nat → Nat) (X1 X2 : Nat → Nat → Int) (rs1 rs2 : List Rn) : Prop where
  bel : Below w.heap.size w W
  t1 : W.heap[tb1]? = some (.cells #[.slice (some ⟨rb1, 0, none⟩) nn nn, .slice va1 ul cap1] 27 (0, 0))
  t2 : W.heap[tb2]? = some (.cells #[.slice (some ⟨rb2, 0, none⟩) nn nn, .slice va2 ul cap2] 27 (0, 0))
  tab1 : Tab W (fun _ => True) nn (.slice (some ⟨rb1, 0, none⟩) nn nn) (.slice va1 ul cap1) rb1 R1 X1 rs1
  tab2 : Tab W (fun _ => True) nn (.slice (some ⟨rb2, 0, none⟩) nn nn) (.slice va2 ul cap2) rb2 R2 X2 rs2

theorem Duo.later {w W W' : World} {nn tb1 tb2 : Nat} {va1 va2 : Option Addr} {rb1 rb2 ul cap1 cap2 : Nat} {R1 R2 : Nat → Nat} {X1 X2 : Nat → Nat → Int} {rs1 rs2 : List Rn} (h : Duo w W nn tb1 tb2 va1 va2 rb1 rb2 ul cap1 cap2 R1 R2 X1 X2 rs1 rs2) (hb : Below W.heap.size W W') :
    Duo w W' nn tb1 tb2 va1 va2 rb1 rb2 ul cap1 cap2 R1 R2 X1 X2 rs1 rs2 where
  bel := h.bel.trans (hb.mono h.bel.size)
  t1 := by rw [hb.block _ (Array.getElem?_eq_some_iff.1 h.t1).1]; exact h.t1
  t2 := by rw [hb.block _ (Array.getElem?_eq_some_iff.1 h.t2).1]; exact h.t2
  tab1 := h.tab1.kept (fun k _ hk => hb.block k hk)
  tab2 := h.tab2.kept (fun k _ hk => hb.block k hk)

/-- Run m of a table, as the walk reads it. -/
theorem Tab.run_at {w : World} {S : Nat → Prop} {n : Nat} {v0 : Value} {va : Option Addr} {ul cap : Nat} {rb : Nat} {R : Nat → Nat} {X : Nat → Nat → Int} {rs : List Rn} (h : Tab w S n v0 (.slice va ul cap) rb R X rs) {m : Nat} {r : Rn} (hr : rs[m]? = some r) :
    ∃ g, va = some ⟨g, 0, none⟩ ∧ S g ∧ g < w.heap.size ∧ w.cell? ⟨g, m * 3, none⟩ = some (.int .i64 r.node) ∧ w.cell? ⟨g, m * 3 + 1, none⟩ = some (.int .u64 r.frm) ∧ w.cell? ⟨g, m * 3 + 2, none⟩ = some (.slice (some ⟨r.blk, 0, none⟩) n n) ∧ (∀ o, w.frozen? ⟨g, o, none⟩ = false) := by
  obtain ⟨va', cap', hv, -, -, hc⟩ := h.slice
  have hm : m < rs.length := (List.getElem?_eq_some_iff.1 hr).1
  obtain ⟨g, hva, hS, hg, hcl, hfz⟩ := hc (by omega)
  simp only [Value.slice.injEq] at hv
  obtain ⟨rfl, -, rfl⟩ := hv
  exact ⟨g, hva, hS, hg, (hcl m r hr).1, (hcl m r hr).2.1, (hcl m r hr).2.2, hfz⟩

theorem bRuns_get (nn : Nat) (nd fr : Nat → Int) (L : Nat → Nat) (Z : Nat → Nat → Int) (Bk : Nat → Nat) (ul m : Nat) (h : m < ul) : (bRuns nn nd fr L Z Bk ul)[m]? = some (bRun nn nd fr L Z Bk m) := by
  simp [bRuns, h]

theorem lowR_node (k : Nat) (u t : Int) (r : Rn) : (lowR k u t r).node = r.node := by unfold lowR; split <;> rfl
theorem lowR_frm (k : Nat) (u t : Int) (r : Rn) : (lowR k u t r).frm = r.frm := by unfold lowR; split <;> rfl
theorem lowR_blk (k : Nat) (u t : Int) (r : Rn) : (lowR k u t r).blk = r.blk := by unfold lowR; split <;> rfl
theorem lowR_held (k : Nat) (u t : Int) (r : Rn) (j : Nat) : (lowR k u t r).held j = if j = k ∧ r.node = u ∧ r.frm < t ∧ t ≤ r.held k then IntKind.u64.wrap (t - 1) else r.held j := by
  unfold lowR
  by_cases h : r.node = u ∧ r.frm < t ∧ t ≤ r.held k
  · rw [if_pos h]
    by_cases e : j = k
    · simp [Rn.put, e, h]
    · simp [Rn.put, e]
  · rw [if_neg h, if_neg (fun h' => h h'.2)]

/-- b and a, copied out of the two tables. -/
structure Cmp (wo wx : World) (n2 f2 : Int) (s2 : Value) (n1 f1 : Int) (s1 : Value) : Prop where
  bel : Below wo.heap.size wo wx
  b : wx.heap[wo.heap.size]? = some (.cells #[.int .i64 n2, .int .u64 f2, s2] 34 (0, 0))
  a : wx.heap[wo.heap.size + 1]? = some (.cells #[.int .i64 n1, .int .u64 f1, s1] 34 (0, 0))

theorem cmp_mk (wo : World) (n2 f2 : Int) (s2 : Value) (n1 f1 : Int) (s1 : Value) : Cmp wo ((wo.alloc (.cells #[.int .i64 n2, .int .u64 f2, s2] 34)).alloc (.cells #[.int .i64 n1, .int .u64 f1, s1] 34)) n2 f2 s2 n1 f1 s1 where
  bel := ((Below.refl _ _).alloc (Nat.le_refl _) _).alloc (by simp) _
  b := by rw [blk_alloc_lt _ _ _ (by simp), blk_alloc_new]
  a := by
    have := blk_alloc_new (wo.alloc (.cells #[.int .i64 n2, .int .u64 f2, s2] 34)) (.cells #[.int .i64 n1, .int .u64 f1, s1] 34)
    rw [nblk_alloc] at this
    exact this

/-- t, when before has been built behind it. -/
theorem first_kept {w w1 w2 : World} {nn : Nat} {v0 v1 : Value} {rb : Nat} {R : Nat → Nat} {X : Nat → Nat → Int} {rs : List Rn} {o1 o2 : Obj} (T1 : Tab w1 (fun k => w.heap.size ≤ k) nn v0 v1 rb R X rs) (h2 : Below (w1.alloc o1).heap.size (w1.alloc o1) w2) :
    Tab (w2.alloc o2) (fun k => w.heap.size ≤ k ∧ k < w1.heap.size + 1) nn v0 v1 rb R X rs := by
  have hs := h2.size
  rw [nblk_alloc] at hs
  refine (T1.mono (T := fun k => w.heap.size ≤ k ∧ k < w1.heap.size + 1) (fun k hk hlt => ⟨hk, by omega⟩)).kept (fun k _ hlt => ?_)
  rw [blk_alloc_lt _ _ _ (by omega), h2.block k (by rw [nblk_alloc]; omega), blk_alloc_lt _ _ _ hlt]

theorem first_var {w1 w2 : World} {o1 o2 : Obj} (h2 : Below (w1.alloc o1).heap.size (w1.alloc o1) w2) : (w2.alloc o2).heap[w1.heap.size]? = some o1 := by
  have hs := h2.size
  rw [nblk_alloc] at hs
  rw [blk_alloc_lt _ _ _ (by omega), h2.block _ (by rw [nblk_alloc]; omega), blk_alloc_new]

theorem duo_mk {w w1 w2 W : World} {nn : Nat} {va1 va2 : Option Addr} {rb1 rb2 ul cap1 cap2 : Nat} {R1 R2 : Nat → Nat} {X1 X2 : Nat → Nat → Int} {rs1 rs2 : List Rn} {o1 : Obj} (h1 : Below w.heap.size w w1) (h2 : Below (w1.alloc o1).heap.size (w1.alloc o1) w2)
    (T2 : Tab w2 (fun k => w1.heap.size + 1 ≤ k) nn (.slice (some ⟨rb2, 0, none⟩) nn nn) (.slice va2 ul cap2) rb2 R2 X2 rs2)
    (hk : Kept (fun k => w.heap.size ≤ k ∧ k < w1.heap.size + 1) (w2.alloc (.cells #[.slice (some ⟨rb2, 0, none⟩) nn nn, .slice va2 ul cap2] 27)) W) (ht1 : W.heap[w1.heap.size]? = some (.cells #[.slice (some ⟨rb1, 0, none⟩) nn nn, .slice va1 ul cap1] 27 (0, 0)))
    (T1 : Tab W (fun k => w.heap.size ≤ k ∧ k < w1.heap.size + 1) nn (.slice (some ⟨rb1, 0, none⟩) nn nn) (.slice va1 ul cap1) rb1 R1 X1 rs1) :
    Duo w W nn w1.heap.size w2.heap.size va1 va2 rb1 rb2 ul cap1 cap2 R1 R2 X1 X2 rs1 rs2 where
  bel := by
    have hs := h2.size
    rw [nblk_alloc] at hs
    have h3 : Below w.heap.size (w2.alloc (.cells #[.slice (some ⟨rb2, 0, none⟩) nn nn, .slice va2 ul cap2] 27)) W := hk.below (by rw [nblk_alloc]; have := h1.size; omega) (fun k hk h => by omega)
    exact (((h1.alloc h1.size _).trans (h2.mono (by rw [nblk_alloc]; have := h1.size; omega))).alloc (by have := h1.size; omega) _).trans h3
  t1 := ht1
  t2 := by
    have hs := h2.size
    rw [nblk_alloc] at hs
    rw [hk.block _ (by simp) (fun h => by omega), blk_alloc_new]
  tab1 := T1.mono (fun _ _ _ => trivial)
  tab2 := by
    refine (((T2.alloc (.cells #[.slice (some ⟨rb2, 0, none⟩) nn nn, .slice va2 ul cap2] 27)).kept (fun k hk' hlt => hk.block k hlt (fun h => by omega))).mono (T := fun _ => True) (fun _ _ _ => trivial))

end Go.Proofs.Ybulkbsio
