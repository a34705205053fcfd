import Derived.Test.YbulkbsioCInsert
namespace Go.Proofs.Ybulkbsio
open Go.RowKit Go.Deep

/-- S, and all that is made from w on. -/
def Up (S : Nat → Prop) (w : World) (k : Nat) : Prop := S k ∨ w.heap.size ≤ k

/-- A table and the variable that holds it. -/
structure TB (w : World) (S : Nat → Prop) (tb n : Nat) (v0 v1 : Value) (rb : Nat) (R : Nat → Nat) (X : Nat → Nat → Int) (rs : List Rn) : Prop where
  tbl : w.heap[tb]? = some (.cells #[v0, v1] 27 (0, 0))
  stb : S tb
  tab : Tab w S n v0 v1 rb R X rs

theorem flat_take (n : Nat) (rs : List Rn) (i : Nat) : (rs.take i).flatMap (Rn.cells n) = (rs.flatMap (Rn.cells n)).take (i * 3) := by
  induction rs generalizing i with
  | nil => simp
  | cons x xs ih =>
    cases i with
    | zero => simp
    | succ k =>
      have hl : (Rn.cells n x).length = 3 := rfl
      rw [List.take_succ_cons, List.flatMap_cons, List.flatMap_cons, ih k, List.take_append, List.take_of_length_le (l := Rn.cells n x) (by omega), hl, show (k + 1) * 3 - 3 = k * 3 by omega]

theorem flat_drop (n : Nat) (rs : List Rn) (i : Nat) : (rs.drop i).flatMap (Rn.cells n) = (rs.flatMap (Rn.cells n)).drop (i * 3) := by
  induction rs generalizing i with
  | nil => simp
  | cons x xs ih =>
    cases i with
    | zero => simp
    | succ k =>
      have hl : (Rn.cells n x).length = 3 := rfl
      have hd : (Rn.cells n x).drop ((k + 1) * 3) = [] := List.drop_eq_nil_of_le (by omega)
      rw [List.drop_succ_cons, List.flatMap_cons, ih k, List.drop_append, hd, List.nil_append, hl, show (k + 1) * 3 - 3 = k * 3 by omega]

def insR (rs : List Rn) (i : Nat) (r : Rn) : List Rn := rs.take i ++ r :: rs.drop i

theorem flat_ins (n : Nat) (rs : List Rn) (i : Nat) (r : Rn) : (insR rs i r).flatMap (Rn.cells n) = (rs.flatMap (Rn.cells n)).take (i * 3) ++ Rn.cells n r ++ (rs.flatMap (Rn.cells n)).drop (i * 3) := by
  unfold insR
  rw [List.flatMap_append, List.flatMap_cons, flat_take, flat_drop, List.append_assoc]

theorem mem_ins {rs : List Rn} {i : Nat} {r x : Rn} (h : x ∈ insR rs i r) : x ∈ rs ∨ x = r := by
  unfold insR at h
  rcases List.mem_append.1 h with h | h
  · exact .inl (List.mem_of_mem_take h)
  · rcases List.mem_cons.1 h with h | h
    · exact .inr h
    · exact .inl (List.mem_of_mem_drop h)

theorem len_ins {rs : List Rn} {i : Nat} {r : Rn} (h : i ≤ rs.length) : (insR rs i r).length = rs.length + 1 := by
  unfold insR
  simp only [List.length_append, List.length_cons, List.length_take, List.length_drop]; omega

theorem get_ins_at {rs : List Rn} {i : Nat} {r : Rn} (h : i ≤ rs.length) : (insR rs i r)[i]? = some r := by
  unfold insR
  rw [List.getElem?_append_right (by rw [List.length_take]; omega), List.length_take, Nat.min_eq_left h]; simp

theorem get_ins_lt {rs : List Rn} {i k : Nat} {r : Rn} (h : i ≤ rs.length) (hk : k < i) : (insR rs i r)[k]? = rs[k]? := by
  unfold insR
  rw [List.getElem?_append_left (by simp; omega), List.getElem?_take, if_pos hk]

theorem get_ins_gt {rs : List Rn} {i k : Nat} {r : Rn} (h : i ≤ rs.length) (hk : i ≤ k) : (insR rs i r)[k + 1]? = rs[k]? := by
  unfold insR
  rw [List.getElem?_append_right (by simp; omega), List.length_take, Nat.min_eq_left h, show k + 1 - i = (k - i) + 1 by omega, List.getElem?_cons_succ, List.getElem?_drop]
  congr 1; omega

theorem sorted_ins {rs : List Rn} {i : Nat} {r : Rn} (hs : SortedR rs) (h : i ≤ rs.length) (hlo : ∀ m x, m < i → rs[m]? = some x → lt2 x.node x.frm r.node r.frm) (hhi : ∀ m x, i ≤ m → rs[m]? = some x → lt2 r.node r.frm x.node x.frm) : SortedR (insR rs i r) := by
  intro a b x y hab hx hy
  by_cases h1 : b < i
  · rw [get_ins_lt h h1] at hy
    rw [get_ins_lt h (by omega)] at hx
    exact hs a b x y hab hx hy
  · by_cases h2 : b = i
    · subst h2
      rw [get_ins_at h] at hy
      rw [get_ins_lt h hab] at hx
      simp only [Option.some.injEq] at hy
      subst hy
      exact hlo a x hab hx
    · obtain ⟨b', rfl⟩ : ∃ b', b = b' + 1 := ⟨b - 1, by omega⟩
      rw [get_ins_gt h (by omega)] at hy
      by_cases h3 : a < i
      · rw [get_ins_lt h h3] at hx
        exact hs a b' x y (by omega) hx hy
      · by_cases h4 : a = i
        · subst h4
          rw [get_ins_at h] at hx
          simp only [Option.some.injEq] at hx
          subst hx
          exact hhi b' y (by omega) hy
        · obtain ⟨a', rfl⟩ : ∃ a', a = a' + 1 := ⟨a - 1, by omega⟩
          rw [get_ins_gt h (by omega)] at hx
          exact hs a' b' x y (by omega) hx hy

theorem Tab.insert {w w' : World} {S : Nat → Prop} {n : Nat} {v0 v1 v1' : Value} {rb : Nat} {R : Nat → Nat} {X : Nat → Nat → Int} {rs : List Rn} (h : Tab w S n v0 v1 rb R X rs) {i : Nat} (hi : i ≤ rs.length) {r : Rn}
    (hrow : w.rowIs r.blk 24 n (fun j => .int .u64 (r.held j))) (hSb : S r.blk) (hR : ∀ a, a < n → R a ≠ r.blk) (hrs : ∀ x, x ∈ rs → x.blk ≠ r.blk)
    (hown : w'.ownsRow 0 34 3 v1' (rs.length + 1) ((rs.flatMap (Rn.cells n)).take (i * 3) ++ Rn.cells n r ++ (rs.flatMap (Rn.cells n)).drop (i * 3)))
    (hgrow : w.grownBy w' v1.ownBlock) (hS : ∀ g, v1'.ownBlock = some g → S g) : Tab w' S n v0 v1' rb R X (insR rs i r) := by
  have hk : ∀ k, k < w.heap.size → v1.ownBlock ≠ some k → w'.heap[k]? = w.heap[k]? := fun k hk hne => hgrow.block k hk (fun e => hne e.symm)
  have hr24 : ∀ b f, w.rowIs b 24 n f → w'.rowIs b 24 n f := fun b f hb => hb.of_block (hk b hb.lt (h.own_ne hb))
  refine ⟨h.hv0, h.srb, ?_, fun i hi => ⟨(h.row i hi).1, hr24 _ _ (h.row i hi).2⟩, h.inj, ?_, hS, fun x hx => ?_, fun a x ha hx => ?_, ?_⟩
  · refine h.top.of_block (hk _ h.top.lt ?_)
    obtain ⟨c, hc, _⟩ := h.top
    exact own_ne_block h.own hc (by decide)
  · rw [flat_ins, len_ins hi]
    exact hown
  · rcases mem_ins hx with hx | rfl
    · exact ⟨(h.held x hx).1, hr24 _ _ (h.held x hx).2⟩
    · exact ⟨hSb, hr24 _ _ hrow⟩
  · rcases mem_ins hx with hx | rfl
    · exact h.apart a x ha hx
    · exact hR a ha
  · have hn := h.nodup
    rw [← List.take_append_drop i rs, List.map_append] at hn
    unfold insR
    rw [List.map_append, List.map_cons]
    refine (List.Perm.nodup_iff (List.perm_middle)).2 ?_
    rw [List.nodup_cons]
    refine ⟨fun hm => ?_, hn⟩
    rw [← List.map_append, List.take_append_drop] at hm
    obtain ⟨x, hx, e⟩ := List.mem_map.1 hm
    exact hrs x hx e

theorem cells_one (n : Nat) (rs : List Rn) : ∀ v ∈ rs.flatMap (Rn.cells n), v.oneCell' = true := by
  intro v hv
  obtain ⟨r, _, hr⟩ := List.mem_flatMap.1 hv
  simp only [Rn.cells, List.mem_cons, List.not_mem_nil, or_false] at hr
  rcases hr with rfl | rfl | rfl <;> rfl

theorem block_set (w : World) (tb : Nat) (v0 v1 v : Value) (t : Nat) (h : w.heap[tb]? = some (.cells #[v0, v1] t (0, 0))) : (w.setCell ⟨tb, 1, none⟩ v).heap[tb]? = some (.cells #[v0, v] t (0, 0)) := by
  simp [World.setCell, Array.getElem?_modify, h]

end Go.Proofs.Ybulkbsio
