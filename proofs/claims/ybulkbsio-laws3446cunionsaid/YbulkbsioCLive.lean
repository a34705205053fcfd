import Derived.Test.YbulkbsioCRunW
namespace Go.Proofs.Ybulkbsio
open Go.RowKit Go.Deep

/-- Some node holds something of the run. -/
def liveB (n : Nat) (r : Rn) : Bool := (List.range n).any (fun j => decide (r.frm < r.held j))

theorem gt_any (w : World) (x F : Int) (b : Nat) (c : w.cell? ⟨b, 1, none⟩ = some (.int .u64 F)) :
    Calls Yba.prog 29 #[.int .u64 x, .pointer (some ⟨b, 0, none⟩)] w fun e w' => e = .returned (.bool (decide (F < x))) ∧ w' = w := by
  go_enter Yba.func29, Yba.ntmps29
  go_wp2
  go_ret
  exact ⟨ret_bool (by simp), rfl⟩

set_option maxHeartbeats 1000000 in
theorem index64_any (w : World) (n blk : Nat) (f : Nat → Int) (F : Int) (b : Nat) (h6 : n ≤ 6) (c : w.cell? ⟨b, 1, none⟩ = some (.int .u64 F)) (hrow : w.rowIs blk 24 n (fun j => .int .u64 (f j))) :
    Calls Yba.prog 38 #[.slice (some ⟨blk, 0, none⟩) n n, .func (.func 29) #[] #[.pointer (some ⟨b, 0, none⟩)]] w fun e w' => (∃ r : Int, e = .returned (.int .i64 r) ∧ decide (0 ≤ r) = (List.range n).any (fun j => decide (F < f j))) ∧ w' = w := by
  go_enter Yba.func38, Yba.ntmps38
  go_wp2
  go_loopg [8] n (fun g i wr => ∃ m : Nat, m ≤ n ∧ g = n - m ∧ i = .int .i64 m ∧ (∀ j, j < m → ¬ F < f j) ∧ wr = w)
  case atStart => exact ⟨0, Nat.zero_le _, rfl, rfl, by omega, rfl⟩
  case round =>
    obtain ⟨m, hm, rfl, rfl, hno, rfl⟩ := hrel
    have HN : Hid (∀ j, j < m → ¬ F < f j) := hno
    clear hno
    by_cases hmr : m < n
    · have hmz : (m : Int) < (n : Int) := by omega
      have q := hrow.cell hmr
      have HC := gt_any wr (f m) F b c
      by_cases e1 : F < f m
      · rw [show decide (F < f m) = true by simp [e1]] at HC
        have HE : Hid (F < f m) := e1
        clear e1
        go_wp2_with fail
        refine HC.mono ?_
        rintro e w' ⟨rfl, rfl⟩
        go_wp2
        go_ret
        refine ⟨⟨m, rfl, ?_⟩, rfl⟩
        rw [List.any_eq_true.2 ⟨m, List.mem_range.2 hmr, decide_eq_true HE.out⟩]; simp
      · rw [show decide (F < f m) = false by simp [e1]] at HC
        have HE : Hid (¬ F < f m) := e1
        clear e1
        go_wp2_with fail
        refine HC.mono ?_
        rintro e w' ⟨rfl, rfl⟩
        go_wp2
        go_roundg (n - (m + 1))
        case measure => go_light; omega
        case rel =>
          go_light
          refine ⟨m + 1, by omega, rfl, by go_num, fun j hj => ?_, rfl⟩
          by_cases e : j = m
          · subst e; exact HE.out
          · exact HN.out j (by omega)
    · go_wp2
      go_ret
      refine ⟨⟨-1, rfl, ?_⟩, rfl⟩
      have : (List.range n).any (fun j => decide (F < f j)) = false := by
        rw [List.any_eq_false]
        intro j hj
        have := HN.out j (by have := List.mem_range.1 hj; omega)
        simp [this]
      rw [this]; rfl

theorem contains64_any (w : World) (n blk : Nat) (f : Nat → Int) (F : Int) (b : Nat) (h6 : n ≤ 6) (c : w.cell? ⟨b, 1, none⟩ = some (.int .u64 F)) (hrow : w.rowIs blk 24 n (fun j => .int .u64 (f j))) :
    Calls Yba.prog 28 #[.slice (some ⟨blk, 0, none⟩) n n, .func (.func 29) #[] #[.pointer (some ⟨b, 0, none⟩)]] w fun e w' => e = .returned (.bool ((List.range n).any (fun j => decide (F < f j)))) ∧ w' = w := by
  have HC := index64_any w n blk f F b h6 c hrow
  clear hrow c
  generalize (List.range n).any (fun j => decide (F < f j)) = z at HC ⊢
  go_enter Yba.func28, Yba.ntmps28
  go_wp2_with fail
  refine HC.mono ?_
  rintro e w' ⟨⟨r, rfl, hr⟩, rfl⟩
  have HR : Hid (decide (0 ≤ r) = z) := hr
  clear hr
  go_wp2
  go_ret
  exact ⟨ret_bool HR.out, rfl⟩

theorem dead_any (w : World) (n : Nat) (r : Rn) (h6 : n ≤ 6) (hrow : w.rowIs r.blk 24 n (fun j => .int .u64 (r.held j))) :
    Calls Yba.prog 27 #[.agg #[.int .i64 r.node, .int .u64 r.frm, .slice (some ⟨r.blk, 0, none⟩) n n]] w fun e w' => e = .returned (.bool (!liveB n r)) ∧ Below w.heap.size w w' := by
  have hB : Below w.heap.size w (w.alloc (.cells #[.int .i64 r.node, .int .u64 r.frm, .slice (some ⟨r.blk, 0, none⟩) n n] 34)) := (Below.refl _ _).alloc (Nat.le_refl _) _
  have HC := contains64_any (w.alloc (.cells #[.int .i64 r.node, .int .u64 r.frm, .slice (some ⟨r.blk, 0, none⟩) n n] 34)) n r.blk r.held r.frm w.heap.size h6 (by rw [World.cell?, blk_alloc_new]; rfl) (hrow.of_block (hB.block _ hrow.lt))
  clear hrow
  have hz : liveB n r = (List.range n).any (fun j => decide (r.frm < r.held j)) := rfl
  rw [← hz] at HC
  generalize liveB n r = z at HC ⊢
  have hmf := hmf
  go_enter Yba.func27, Yba.ntmps27
  go_wp2_with fail
  refine HC.mono ?_
  rintro e w' ⟨rfl, rfl⟩
  go_wp2
  go_ret
  exact ⟨rfl, hB⟩

set_option maxHeartbeats 1000000 in
theorem index27_any (w : World) (S : Nat → Prop) (n : Nat) (rb : Nat) (R : Nat → Nat) (X : Nat → Nat → Int) (rs : List Rn) (v0 v1 : Value) (h6 : n ≤ 6)
    (hT : Tab w S n v0 v1 rb R X rs) (hrl : rs.length ≤ 1000000) :
    Calls Yba.prog 37 #[v1, .func (.func 27) #[] #[]] w fun e w' => ((e = .returned (.int .i64 (-1)) ∧ ∀ x, x ∈ rs → liveB n x = true) ∨ ∃ i x, e = .returned (.int .i64 (i : Nat)) ∧ rs[i]? = some x ∧ liveB n x = false ∧ ∀ y, y ∈ rs.take i → liveB n y = true) ∧ Below w.heap.size w w' := by
  obtain ⟨va, cap, rfl, hcap, hcm, -⟩ := hT.slice
  go_enter Yba.func37, Yba.ntmps37
  go_wp2
  go_loopg [8] rs.length (fun g i wr => ∃ m : Nat, m ≤ rs.length ∧ g = rs.length - m ∧ i = .int .i64 m ∧ (∀ y, y ∈ rs.take m → liveB n y = true) ∧ Below w.heap.size w wr)
  case atStart => exact ⟨0, Nat.zero_le _, rfl, rfl, by simp, Below.refl _ _⟩
  case round =>
    obtain ⟨m, hm, rfl, rfl, hno, hB⟩ := hrel
    have HN : Hid (∀ y, y ∈ rs.take m → liveB n y = true) := hno
    clear hno
    by_cases hmr : m < rs.length
    · have hmz : (m : Int) < (rs.length : Int) := by omega
      obtain ⟨r, hr⟩ : ∃ r, rs[m]? = some r := ⟨_, List.getElem?_eq_getElem hmr⟩
      have hT' := hT.kept (w' := wr) (fun k _ hk => hB.block k hk)
      obtain ⟨g, rfl, -, hg, d0, d1, d2, -⟩ := hT'.run_at hr
      have HC := dead_any wr n r h6 (hT'.held r (List.mem_of_getElem? hr)).2
      have HR : Hid (rs[m]? = some r) := hr
      clear hT' hr
      cases e1 : liveB n r
      · have HE : Hid (liveB n r = false) := e1
        rw [e1] at HC
        clear e1
        go_wp2_with fail
        refine HC.mono ?_
        rintro e w' ⟨rfl, hb'⟩
        go_wp2
        go_ret
        exact ⟨.inr ⟨m, r, rfl, HR.out, HE.out, HN.out⟩, hB.trans (hb'.mono hB.size)⟩
      · have HE : Hid (liveB n r = true) := e1
        rw [e1] at HC
        clear e1
        go_wp2_with fail
        refine HC.mono ?_
        rintro e w' ⟨rfl, hb'⟩
        go_wp2
        go_roundg (rs.length - (m + 1))
        case measure => go_light; omega
        case rel =>
          go_light
          refine ⟨m + 1, by omega, rfl, by go_num, fun y hy => ?_, hB.trans (hb'.mono hB.size)⟩
          obtain ⟨hml, hmr'⟩ := List.getElem?_eq_some_iff.1 HR.out
          rw [List.take_succ_eq_append_getElem hml, hmr'] at hy
          rcases List.mem_append.1 hy with h | h
          · exact HN.out y h
          · simp only [List.mem_singleton] at h; subst h; exact HE.out
    · have hno := HN.out
      rw [List.take_of_length_le (by omega)] at hno
      have HN2 : Hid (∀ x, x ∈ rs → liveB n x = true) := hno
      clear hno
      go_wp2
      go_ret
      exact ⟨.inl ⟨rfl, HN2.out⟩, hB⟩

end Go.Proofs.Ybulkbsio
