import Derived.Test.YbulkbsioDuo
namespace Go.Proofs.Ybulkbsio
open Go.RowKit Go.Deep

def runHolds (k : Nat) (U t : Int) (r : Rn) : Bool := decide (r.node = U ∧ r.frm < t ∧ t ≤ r.held k)

/-- What a table says of a tag. -/
def holdsB (k u : Nat) (t : Int) (X : Nat → Nat → Int) (rs : List Rn) : Bool := decide (t ≤ X k u) || rs.any (runHolds k (u + 1) t)

/-- The world in the loop of 'holds'. -/
structure HoRel (w wr : World) (v0 v1 : Value) (U t : Int) : Prop where
  bel : Below w.heap.size w wr
  tv : wr.heap[w.heap.size]? = some (.cells #[v0, v1] 27 (0, 0))
  tag : wr.heap[w.heap.size + 1]? = some (.cells #[.int .i64 U, .int .u64 t] 31 (0, 0))

theorem hoRel_mk (w : World) (v0 v1 : Value) (U t : Int) (q : Nat) : HoRel w (((w.alloc (.cells #[v0, v1] 27)).alloc (.cells #[.int .i64 U, .int .u64 t] 31)).drewN q) v0 v1 U t where
  bel := by
    have h : Below w.heap.size w ((w.alloc (.cells #[v0, v1] 27)).alloc (.cells #[.int .i64 U, .int .u64 t] 31)) := ((Below.refl _ _).alloc (Nat.le_refl _) _).alloc (by simp) _
    exact ⟨h.os, h.tape, h.output, h.size, h.block⟩
  tv := by
    show ((w.alloc (.cells #[v0, v1] 27)).alloc (.cells #[.int .i64 U, .int .u64 t] 31)).heap[w.heap.size]? = _
    rw [blk_alloc_lt _ _ _ (by simp), blk_alloc_new]
  tag := by
    show ((w.alloc (.cells #[v0, v1] 27)).alloc (.cells #[.int .i64 U, .int .u64 t] 31)).heap[w.heap.size + 1]? = _
    have := blk_alloc_new (w.alloc (.cells #[v0, v1] 27)) (.cells #[.int .i64 U, .int .u64 t] 31)
    rw [nblk_alloc] at this
    exact this

theorem HoRel.alloc {w wr : World} {v0 v1 : Value} {U t : Int} (h : HoRel w wr v0 v1 U t) (o : Obj) (q : Nat) : HoRel w ((wr.alloc o).drewN q) v0 v1 U t where
  bel := by
    have h1 := h.bel.alloc h.bel.size o
    exact ⟨h1.os, h1.tape, h1.output, h1.size, h1.block⟩
  tv := by
    show (wr.alloc o).heap[w.heap.size]? = _
    rw [blk_alloc_lt _ _ _ (Array.getElem?_eq_some_iff.1 h.tv).1]; exact h.tv
  tag := by
    show (wr.alloc o).heap[w.heap.size + 1]? = _
    rw [blk_alloc_lt _ _ _ (Array.getElem?_eq_some_iff.1 h.tag).1]; exact h.tag

theorem any_take_succ {α : Type} (f : α → Bool) (l : List α) (m : Nat) (r : α) (hr : l[m]? = some r) : (l.take (m + 1)).any f = ((l.take m).any f || f r) := by
  obtain ⟨hm, rfl⟩ := List.getElem?_eq_some_iff.1 hr
  rw [List.take_succ_eq_append_getElem hm]
  simp only [List.any_append, List.any_cons, List.any_nil, Bool.or_false]

theorem ret_bool {a b : Bool} (h : a = b) : Ending.returned (.bool a) = .returned (.bool b) := by rw [h]

set_option maxHeartbeats 1000000 in
theorem holds_any (w : World) (S : Nat → Prop) (n : Nat) (rb : Nat) (R : Nat → Nat) (X : Nat → Nat → Int) (rs : List Rn) (v0 v1 : Value) (K U t : Int) (h6 : n ≤ 6) (hK1 : 1 ≤ K) (hKn : K ≤ n) (hU1 : 1 ≤ U) (hUn : U ≤ n)
    (hT : Tab w S n v0 v1 rb R X rs) (hrl : rs.length ≤ 1000000) :
    Calls Yba.prog 9 #[.agg #[v0, v1], .int .i64 K, .agg #[.int .i64 U, .int .u64 t]] w fun e w' => e = .returned (.bool (holdsB (K - 1).toNat (U - 1).toNat t X rs)) ∧ Below w.heap.size w w' := by
  obtain ⟨k, rfl⟩ : ∃ k : Nat, K = k + 1 := ⟨(K - 1).toNat, by omega⟩
  obtain ⟨u, rfl⟩ : ∃ u : Nat, U = u + 1 := ⟨(U - 1).toNat, by omega⟩
  have hk : k < n := by omega
  have hu : u < n := by omega
  rw [show ((k : Int) + 1 - 1).toNat = k from by omega, show ((u : Int) + 1 - 1).toNat = u from by omega]
  obtain ⟨va, cap, rfl, hcap, hcm, -⟩ := hT.slice
  obtain rfl := hT.hv0
  have hkz : (k : Int) < (n : Int) := by omega
  have huz : (u : Int) < (n : Int) := by omega
  have c2 : w.cell? ⟨rb, k, none⟩ = some (.slice (some ⟨R k, 0, none⟩) n n) := hT.top.cell hk
  have c3 : w.cell? ⟨R k, u, none⟩ = some (.int .u64 (X k u)) := (hT.row k hk).2.cell hu
  have hrb : rb < w.heap.size := hT.top.lt
  have hRk : R k < w.heap.size := (hT.row k hk).2.lt
  by_cases ht : t ≤ X k u
  · go_enter Yba.func9, Yba.ntmps9
    go_wp2
    go_quiet (fail)
    go_wp2
    go_ret
    exact ⟨ret_bool (by simp [holdsB, ht]), (hoRel_mk w _ _ _ _ _).bel⟩
  · have hany : holdsB k u t X rs = rs.any (runHolds k (u + 1) t) := by simp [holdsB, ht]
    rw [hany]
    clear hany
    go_enter Yba.func9, Yba.ntmps9
    go_wp2
    go_quiet (fail)
    go_wp2
    go_loopg [26] rs.length (fun g i wr => ∃ m : Nat, m ≤ rs.length ∧ g = rs.length - m ∧ i = .int .i64 m ∧ (rs.take m).any (runHolds k (u + 1) t) = false ∧ HoRel w wr (.slice (some ⟨rb, 0, none⟩) n n) (.slice va rs.length cap) (u + 1) t)
    case atStart => exact ⟨0, Nat.zero_le _, rfl, rfl, by simp, hoRel_mk w _ _ _ _ _⟩
    case round =>
      obtain ⟨m, hm, rfl, rfl, hno, hL⟩ := hrel
      have HN : Hid ((rs.take m).any (runHolds k (u + 1) t) = false) := hno
      clear hno c2 c3 hrb hRk ht
      by_cases hmr : m < rs.length
      · have hmz : (m : Int) < (rs.length : Int) := by omega
        obtain ⟨r, hr⟩ : ∃ r, rs[m]? = some r := ⟨_, List.getElem?_eq_getElem hmr⟩
        have hT' := hT.kept (w' := wr) (fun k _ hk => hL.bel.block k hk)
        obtain ⟨g, rfl, -, hg, d0, d1, d2, -⟩ := hT'.run_at hr
        have d3 := (hT'.held r (List.mem_of_getElem? hr)).2.cell hk
        have l3 := (hT'.held r (List.mem_of_getElem? hr)).2.lt
        have d5 : wr.cell? ⟨w.heap.size, 1, none⟩ = some (.slice (some ⟨g, 0, none⟩) rs.length cap) := by simp [World.cell?, hL.tv]
        have d6 : wr.cell? ⟨w.heap.size + 1, 0, none⟩ = some (.int .i64 (u + 1)) := by simp [World.cell?, hL.tag]
        have d7 : wr.cell? ⟨w.heap.size + 1, 1, none⟩ = some (.int .u64 t) := by simp [World.cell?, hL.tag]
        have l4 : w.heap.size + 1 < wr.heap.size := (Array.getElem?_eq_some_iff.1 hL.tag).1
        have HR : Hid (rs[m]? = some r) := hr
        clear hT' hr
        by_cases e1 : r.node = u + 1
        · have g1 : (r.node == (u : Int) + 1) = true := by simp [e1]
          by_cases e2 : r.frm < t
          · have g2 : decide (r.frm < t) = true := by simp [e2]
            by_cases e3 : t ≤ r.held k
            · have g3 : decide (t ≤ r.held k) = true := by simp [e3]
              have HE : Hid (runHolds k (u + 1) t r = true) := by simp only [Hid, runHolds, decide_eq_true_eq]; exact ⟨e1, e2, e3⟩
              clear e1 e2 e3
              go_wp2
              go_quiet (fail)
              go_wp2
              go_ret
              exact ⟨ret_bool (by rw [List.any_eq_true.2 ⟨r, List.mem_of_getElem? HR.out, HE.out⟩]), (hL.alloc _ _).bel⟩
            · have g3 : decide (t ≤ r.held k) = false := by simp [e3]
              have HE : Hid (runHolds k (u + 1) t r = false) := by simp only [Hid, runHolds, decide_eq_false_iff_not]; exact fun h => e3 h.2.2
              clear e1 e2 e3
              go_wp2
              go_quiet (fail)
              go_wp2
              go_roundg (rs.length - (m + 1))
              case measure => go_light; omega
              case rel => go_light; exact ⟨m + 1, by omega, rfl, by go_num, by rw [any_take_succ _ _ _ _ HR.out, HN.out, HE.out]; rfl, hL.alloc _ _⟩
          · have g2 : decide (r.frm < t) = false := by simp [e2]
            have HE : Hid (runHolds k (u + 1) t r = false) := by simp only [Hid, runHolds, decide_eq_false_iff_not]; exact fun h => e2 h.2.1
            clear e1 e2
            go_wp2
            go_quiet (fail)
            go_wp2
            go_roundg (rs.length - (m + 1))
            case measure => go_light; omega
            case rel => go_light; exact ⟨m + 1, by omega, rfl, by go_num, by rw [any_take_succ _ _ _ _ HR.out, HN.out, HE.out]; rfl, hL.alloc _ _⟩
        · have g1 : (r.node == (u : Int) + 1) = false := by simp [e1]
          have HE : Hid (runHolds k (u + 1) t r = false) := by simp only [Hid, runHolds, decide_eq_false_iff_not]; exact fun h => e1 h.1
          clear e1
          go_wp2
          go_quiet (fail)
          go_wp2
          go_roundg (rs.length - (m + 1))
          case measure => go_light; omega
          case rel => go_light; exact ⟨m + 1, by omega, rfl, by go_num, by rw [any_take_succ _ _ _ _ HR.out, HN.out, HE.out]; rfl, hL.alloc _ _⟩
      · have hno := HN.out
        rw [List.take_of_length_le (by omega)] at hno
        go_wp2
        go_ret
        exact ⟨ret_bool (by first | rfl | exact hno.symm), hL.bel⟩
end Go.Proofs.Ybulkbsio
