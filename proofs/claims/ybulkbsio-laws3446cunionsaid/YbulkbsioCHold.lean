/-
  What a table says (HP), plain: no Go in sight.
-/
import Derived.Test.YbulkbsioCDel
namespace Go.Proofs.Ybulkbsio
open Go.RowKit Go.Deep

def hit (a u : Nat) (t : Int) (r : Rn) : Prop := r.node = u + 1 ∧ r.frm < t ∧ t ≤ r.held a

/-- Node a holds change t of node u + 1. -/
def HP (a u : Nat) (t : Int) (X : Nat → Nat → Int) (rs : List Rn) : Prop := t ≤ X a u ∨ ∃ (q : Nat) (r : Rn), rs[q]? = some r ∧ hit a u t r

def Good (n : Nat) (rs : List Rn) : Prop := SortedR rs ∧ ∀ r ∈ rs, 1 ≤ r.node ∧ r.node ≤ n

theorem some_set {P : Rn → Prop} {rs : List Rn} {i : Nat} {y : Rn} (hi : i < rs.length) : (∃ (q : Nat) (x : Rn), (rs.set i y)[q]? = some x ∧ P x) ↔ (P y ∨ ∃ (q : Nat) (x : Rn), q ≠ i ∧ rs[q]? = some x ∧ P x) := by
  constructor
  · rintro ⟨q, x, hq, hx⟩
    by_cases e : q = i
    · subst e
      rw [List.getElem?_set_self hi] at hq
      simp only [Option.some.injEq] at hq
      subst hq
      exact .inl hx
    · rw [List.getElem?_set_ne (fun h => e h.symm)] at hq
      exact .inr ⟨q, x, e, hq, hx⟩
  · rintro (h | ⟨q, x, e, hq, hx⟩)
    · exact ⟨i, y, List.getElem?_set_self hi, h⟩
    · exact ⟨q, x, by rw [List.getElem?_set_ne (fun h => e h.symm)]; exact hq, hx⟩

theorem some_at {P : Rn → Prop} {rs : List Rn} {i : Nat} {r : Rn} (hr : rs[i]? = some r) : (∃ (q : Nat) (x : Rn), rs[q]? = some x ∧ P x) ↔ (P r ∨ ∃ (q : Nat) (x : Rn), q ≠ i ∧ rs[q]? = some x ∧ P x) := by
  constructor
  · rintro ⟨q, x, hq, hx⟩
    by_cases e : q = i
    · subst e
      rw [hr] at hq
      simp only [Option.some.injEq] at hq
      subst hq
      exact .inl hx
    · exact .inr ⟨q, x, e, hq, hx⟩
  · rintro (h | ⟨q, x, _, hq, hx⟩)
    · exact ⟨i, r, hr, h⟩
    · exact ⟨q, x, hq, hx⟩

theorem sorted_set {rs : List Rn} (hs : SortedR rs) {i : Nat} {r r' : Rn} (hr : rs[i]? = some r) (h1 : r'.node = r.node) (h2 : r'.frm = r.frm) : SortedR (rs.set i r') := by
  have hi : i < rs.length := (List.getElem?_eq_some_iff.1 hr).1
  have key : ∀ (q : Nat) (x : Rn), (rs.set i r')[q]? = some x → ∃ y : Rn, rs[q]? = some y ∧ x.node = y.node ∧ x.frm = y.frm := fun q x hq => by
    by_cases e : q = i
    · subst e
      rw [List.getElem?_set_self hi] at hq
      simp only [Option.some.injEq] at hq
      subst hq
      exact ⟨r, hr, h1, h2⟩
    · rw [List.getElem?_set_ne (fun h => e h.symm)] at hq
      exact ⟨x, hq, rfl, rfl⟩
  intro a b x y hab hx hy
  obtain ⟨x', hx', e1, e2⟩ := key a x hx
  obtain ⟨y', hy', e3, e4⟩ := key b y hy
  rw [e1, e2, e3, e4]
  exact hs a b x' y' hab hx' hy'

theorem good_set {n : Nat} {rs : List Rn} (hg : Good n rs) {i : Nat} {r r' : Rn} (hr : rs[i]? = some r) (h1 : r'.node = r.node) (h2 : r'.frm = r.frm) : Good n (rs.set i r') := by
  refine ⟨sorted_set hg.1 hr h1 h2, fun x hx => ?_⟩
  rcases List.mem_or_eq_of_mem_set hx with h | rfl
  · exact hg.2 x h
  · rw [h1]; exact hg.2 r (List.mem_of_getElem? hr)

theorem good_put {n : Nat} {rs : List Rn} (hg : Good n rs) {i : Nat} {r : Rn} (hr : rs[i]? = some r) (k : Nat) (v : Int) : Good n (rs.set i (r.put k v)) := good_set hg hr rfl rfl

theorem sorted_sub {rs rs' : List Rn} (hs : SortedR rs) (h : rs'.Sublist rs) : SortedR rs' := by
  have h1 : rs.Pairwise (fun x y => lt2 x.node x.frm y.node y.frm) := by
    rw [List.pairwise_iff_getElem]
    intro i j hi hj hij
    exact hs i j _ _ hij (List.getElem?_eq_getElem hi) (List.getElem?_eq_getElem hj)
  have h2 := h1.sublist h
  rw [List.pairwise_iff_getElem] at h2
  intro i j x y hij hx hy
  obtain ⟨hi, rfl⟩ := List.getElem?_eq_some_iff.1 hx
  obtain ⟨hj, rfl⟩ := List.getElem?_eq_some_iff.1 hy
  exact h2 i j hi hj hij

theorem good_sub {n : Nat} {rs rs' : List Rn} (hg : Good n rs) (h : rs'.Sublist rs) : Good n rs' := ⟨sorted_sub hg.1 h, fun r hr => hg.2 r (h.subset hr)⟩

/-- The row takes a run in. -/
theorem hold_row {k uu : Nat} {X : Nat → Nat → Int} {rs : List Rn} {i : Nat} {r : Rn} (hr : rs[i]? = some r) (hn : r.node = uu + 1) (hf : r.frm ≤ X k uu) (M : Int) (hM : M = max (X k uu) (r.held k)) (a u : Nat) (t : Int) :
    HP a u t (fun c d => if c = k ∧ d = uu then M else X c d) (rs.set i (r.put k r.frm)) ↔ HP a u t X rs := by
  have hi : i < rs.length := (List.getElem?_eq_some_iff.1 hr).1
  unfold HP
  rw [some_set hi, some_at hr]
  generalize (∃ (q : Nat) (x : Rn), q ≠ i ∧ rs[q]? = some x ∧ hit a u t x) = E
  have key : (t ≤ (if a = k ∧ u = uu then M else X a u) ∨ hit a u t (r.put k r.frm)) ↔ (t ≤ X a u ∨ hit a u t r) := by
    unfold hit Rn.put
    by_cases e1 : a = k
    · subst e1
      by_cases e2 : u = uu
      · subst e2
        simp only [and_self, if_true]
        omega
      · simp only [e2, and_false, if_false, if_true]
        omega
    · simp only [e1, false_and, if_false]
  constructor
  · rintro (h | h | h)
    · rcases key.1 (.inl h) with h | h
      · exact .inl h
      · exact .inr (.inl h)
    · rcases key.1 (.inr h) with h | h
      · exact .inl h
      · exact .inr (.inl h)
    · exact .inr (.inr h)
  · rintro (h | h | h)
    · rcases key.2 (.inl h) with h | h
      · exact .inl h
      · exact .inr (.inl h)
    · rcases key.2 (.inr h) with h | h
      · exact .inl h
      · exact .inr (.inl h)
    · exact .inr (.inr h)

/-- A run takes a later one of the same node in. -/
theorem hold_run {k : Nat} {X : Nat → Nat → Int} {rs : List Rn} {i m : Nat} {r rm : Rn} (hr : rs[i]? = some r) (hm : rs[m]? = some rm) (hmi : m ≠ i) (hn : rm.node = r.node) (h1 : rm.frm < r.frm) (h2 : r.frm ≤ rm.held k) (M : Int) (hM : M = max (rm.held k) (r.held k)) (a u : Nat) (t : Int) :
    HP a u t X ((rs.set m (rm.put k M)).set i (r.put k r.frm)) ↔ HP a u t X rs := by
  have hi : i < rs.length := (List.getElem?_eq_some_iff.1 hr).1
  have hml : m < rs.length := (List.getElem?_eq_some_iff.1 hm).1
  have s1 : ∀ (P : Rn → Prop) (y z : Rn), (∃ (q : Nat) (x : Rn), ((rs.set m y).set i z)[q]? = some x ∧ P x) ↔ (P z ∨ P y ∨ ∃ (q : Nat) (x : Rn), (q ≠ i ∧ q ≠ m) ∧ rs[q]? = some x ∧ P x) := fun P y z => by
    rw [some_set (by rw [List.length_set]; exact hi)]
    constructor
    · rintro (h | ⟨q, x, e, hq, hx⟩)
      · exact .inl h
      · by_cases e' : q = m
        · subst e'
          rw [List.getElem?_set_self hml] at hq
          simp only [Option.some.injEq] at hq
          subst hq
          exact .inr (.inl hx)
        · rw [List.getElem?_set_ne (fun h => e' h.symm)] at hq
          exact .inr (.inr ⟨q, x, ⟨e, e'⟩, hq, hx⟩)
    · rintro (h | h | ⟨q, x, ⟨e, e'⟩, hq, hx⟩)
      · exact .inl h
      · exact .inr ⟨m, y, hmi, List.getElem?_set_self hml, h⟩
      · exact .inr ⟨q, x, e, by rw [List.getElem?_set_ne (fun h => e' h.symm)]; exact hq, hx⟩
  have s2 : ∀ (P : Rn → Prop), (∃ (q : Nat) (x : Rn), rs[q]? = some x ∧ P x) ↔ (P r ∨ P rm ∨ ∃ (q : Nat) (x : Rn), (q ≠ i ∧ q ≠ m) ∧ rs[q]? = some x ∧ P x) := fun P => by
    have h := s1 P rm r
    have e : (rs.set m rm).set i r = rs := by
      obtain ⟨h1, rfl⟩ := List.getElem?_eq_some_iff.1 hm
      obtain ⟨h2, rfl⟩ := List.getElem?_eq_some_iff.1 hr
      rw [List.set_getElem_self, List.set_getElem_self]
    rw [e] at h
    exact h
  unfold HP
  rw [s1, s2]
  generalize (∃ (q : Nat) (x : Rn), (q ≠ i ∧ q ≠ m) ∧ rs[q]? = some x ∧ hit a u t x) = E
  have key : (hit a u t (r.put k r.frm) ∨ hit a u t (rm.put k M)) ↔ (hit a u t r ∨ hit a u t rm) := by
    unfold hit Rn.put
    by_cases e1 : a = k
    · subst e1
      simp only [if_true]
      omega
    · simp only [e1, if_false]
  rw [← or_assoc (a := hit a u t (r.put k r.frm)), key, or_assoc]

/-- A run's new number at k, where only one change is won or none. -/
theorem hold_put {k : Nat} {X : Nat → Nat → Int} {rs : List Rn} {i : Nat} {r : Rn} (hr : rs[i]? = some r) (M : Int) (hM : M = max (r.held k) M) (a u : Nat) (t : Int) :
    HP a u t X (rs.set i (r.put k M)) ↔ (HP a u t X rs ∨ (a = k ∧ r.node = u + 1 ∧ r.frm < t ∧ t ≤ M)) := by
  have hi : i < rs.length := (List.getElem?_eq_some_iff.1 hr).1
  unfold HP
  rw [some_set hi, some_at hr]
  generalize (∃ (q : Nat) (x : Rn), q ≠ i ∧ rs[q]? = some x ∧ hit a u t x) = E
  have key : hit a u t (r.put k M) ↔ (hit a u t r ∨ (a = k ∧ r.node = u + 1 ∧ r.frm < t ∧ t ≤ M)) := by
    unfold hit Rn.put
    by_cases e1 : a = k
    · subst e1
      simp only [if_true, true_and]
      omega
    · simp only [e1, if_false, false_and, or_false]
  rw [key]
  constructor
  · rintro (h | (h | h) | h)
    · exact .inl (.inl h)
    · exact .inl (.inr (.inl h))
    · exact .inr h
    · exact .inl (.inr (.inr h))
  · rintro ((h | h | h) | h)
    · exact .inl h
    · exact .inr (.inl (.inl h))
    · exact .inr (.inr h)
    · exact .inr (.inl (.inr h))

/-- Runs that hold nothing anywhere may go. -/
theorem hold_filter {n : Nat} {X : Nat → Nat → Int} {rs : List Rn} (a u : Nat) (t : Int) (ha : a < n) : HP a u t X (rs.filter (liveB n)) ↔ HP a u t X rs := by
  unfold HP
  have h1 : ∀ l : List Rn, (∃ (q : Nat) (r : Rn), l[q]? = some r ∧ hit a u t r) ↔ ∃ r, r ∈ l ∧ hit a u t r := fun l =>
    ⟨fun ⟨q, r, h, h'⟩ => ⟨r, List.mem_of_getElem? h, h'⟩, fun ⟨r, h, h'⟩ => by
      obtain ⟨q, hq⟩ := List.mem_iff_getElem?.1 h
      exact ⟨q, r, hq, h'⟩⟩
  rw [h1, h1]
  constructor
  · rintro (h | ⟨r, hr, h⟩)
    · exact .inl h
    · exact .inr ⟨r, (List.mem_filter.1 hr).1, h⟩
  · rintro (h | ⟨r, hr, h⟩)
    · exact .inl h
    · refine .inr ⟨r, List.mem_filter.2 ⟨hr, ?_⟩, h⟩
      unfold liveB
      refine List.any_eq_true.2 ⟨a, List.mem_range.2 ha, decide_eq_true ?_⟩
      have := h.2
      omega

/-- A new run that holds nothing changes nothing. -/
theorem hold_ins {n : Nat} {X : Nat → Nat → Int} {rs : List Rn} {i : Nat} {r : Rn} (hi : i ≤ rs.length) (hh : ∀ j, j < n → r.held j = r.frm) (a u : Nat) (t : Int) (ha : a < n) : HP a u t X (insR rs i r) ↔ HP a u t X rs := by
  unfold HP
  constructor
  · rintro (h | ⟨q, x, hq, h⟩)
    · exact .inl h
    · rcases mem_ins (List.mem_of_getElem? hq) with hm | rfl
      · obtain ⟨q', hq'⟩ := List.mem_iff_getElem?.1 hm
        exact .inr ⟨q', x, hq', h⟩
      · have := h.2
        rw [hh a ha] at this
        omega
  · rintro (h | ⟨q, x, hq, h⟩)
    · exact .inl h
    · by_cases e : q < i
      · exact .inr ⟨q, x, by rw [get_ins_lt hi e]; exact hq, h⟩
      · exact .inr ⟨q + 1, x, by rw [get_ins_gt hi (by omega)]; exact hq, h⟩

theorem run_to_hold {n : Nat} {U F : Int} {X : Nat → Nat → Int} {rs rs' : List Rn} {i : Nat} {r : Rn} (h : RunTo n U F rs rs' i r) (a u : Nat) (t : Int) (ha : a < n) : HP a u t X rs' ↔ HP a u t X rs := by
  obtain ⟨-, -, hU, hF, -, -, h⟩ := h
  rcases h with rfl | ⟨rfl, hi, hh⟩
  · exact Iff.rfl
  · exact hold_ins hi (fun j hj => by rw [hh j hj, hF]) a u t ha

theorem run_to_good {n : Nat} {U F : Int} {rs rs' : List Rn} {i : Nat} {r : Rn} (h : RunTo n U F rs rs' i r) (hg : Good n rs) (h1 : 1 ≤ U) (h2 : U ≤ n) : Good n rs' := by
  obtain ⟨-, -, hU, hF, hs, -, h⟩ := h
  refine ⟨hs, fun x hx => ?_⟩
  rcases h with rfl | ⟨rfl, hi, hh⟩
  · exact hg.2 x hx
  · rcases mem_ins hx with hm | rfl
    · exact hg.2 x hm
    · rw [hU]; exact ⟨h1, h2⟩

theorem holdsB_iff (k u : Nat) (t : Int) (X : Nat → Nat → Int) (rs : List Rn) : holdsB k u t X rs = true ↔ HP k u t X rs := by
  unfold holdsB HP
  rw [Bool.or_eq_true, decide_eq_true_eq, List.any_eq_true]
  constructor
  · rintro (h | ⟨r, hr, h⟩)
    · exact .inl h
    · obtain ⟨q, hq⟩ := List.mem_iff_getElem?.1 hr
      exact .inr ⟨q, r, hq, by simpa [runHolds, hit] using h⟩
  · rintro (h | ⟨q, r, hq, h⟩)
    · exact .inl h
    · exact .inr ⟨r, List.mem_of_getElem? hq, by simpa [runHolds, hit] using h⟩

end Go.Proofs.Ybulkbsio
