import Derived.Test.YbulkbsioCHold
namespace Go.Proofs.Ybulkbsio
open Go.RowKit Go.Deep

set_option maxHeartbeats 2000000 in
theorem cholds_any (w : World) (S : Nat → Prop) (n : Nat) (rb : Nat) (R : Nat → Nat) (X : Nat → Nat → Int) (rs : List Rn) (v0 v1 : Value) (k u : Nat) (t : Int) (h6 : n ≤ 6) (hk : k < n) (hu : u < n)
    (hT : Tab w S n v0 v1 rb R X rs) (hrl : rs.length ≤ 1000000) :
    Calls Yba.prog 12 #[.agg #[v0, v1], .int .i64 ((k : Int) + 1), .int .i64 ((u : Int) + 1), .int .u64 t] w fun e w' => e = .returned (.bool (holdsB k u t X rs)) ∧ Below w.heap.size w w' := by
  obtain ⟨va, cap, rfl, hcap, hcm, -⟩ := hT.slice
  obtain rfl := hT.hv0
  have hkz : (k : Int) < (n : Int) := by omega
  have huz : (u : Int) < (n : Int) := by omega
  have hkw : IntKind.i64.wrap ((k : Int) + 1 - 1) = (k : Int) := by rw [IntKind.wrap_i64]; omega
  have huw : IntKind.i64.wrap ((u : Int) + 1 - 1) = (u : Int) := by rw [IntKind.wrap_i64]; omega
  have c2 : w.cell? ⟨rb, k, none⟩ = some (.slice (some ⟨R k, 0, none⟩) n n) := hT.top.cell hk
  have c3 : w.cell? ⟨R k, u, none⟩ = some (.int .u64 (X k u)) := (hT.row k hk).2.cell hu
  have hrb : rb < w.heap.size := hT.top.lt
  have hRk : R k < w.heap.size := (hT.row k hk).2.lt
  have hB0 : Below w.heap.size w (w.alloc (.cells #[.slice (some ⟨rb, 0, none⟩) n n, .slice va rs.length cap] 27)) := (Below.refl _ _).alloc (Nat.le_refl _) _
  by_cases ht : t ≤ X k u
  · have hd : decide (t ≤ X k u) = true := by simp [ht]
    go_enter Yba.func12, Yba.ntmps12
    go_wp2
    go_ret
    exact ⟨ret_bool (by simp [holdsB, ht]), hB0⟩
  · have hd : decide (t ≤ X k u) = false := by simp; omega
    have hany : holdsB k u t X rs = rs.any (runHolds k (u + 1) t) := by simp [holdsB, ht]
    rw [hany]
    clear hany
    go_enter Yba.func12, Yba.ntmps12
    go_wp2
    go_loopg [26] rs.length (fun g i wr => ∃ m : Nat, m ≤ rs.length ∧ g = rs.length - m ∧ i = .int .i64 m ∧ (rs.take m).any (runHolds k (u + 1) t) = false ∧ Below w.heap.size w wr)
    case atStart => exact ⟨0, Nat.zero_le _, rfl, rfl, by simp, hB0⟩
    case round =>
      obtain ⟨m, hm, rfl, rfl, hno, hL⟩ := hrel
      have HN : Hid ((rs.take m).any (runHolds k (u + 1) t) = false) := hno
      clear hno c2 c3 hrb hRk ht hd hB0
      by_cases hmr : m < rs.length
      · have hmz : (m : Int) < (rs.length : Int) := by omega
        obtain ⟨r, hr⟩ : ∃ r, rs[m]? = some r := ⟨_, List.getElem?_eq_getElem hmr⟩
        have hT' := hT.kept (w' := wr) (fun k _ hk => hL.block k hk)
        obtain ⟨g, rfl, -, hg, d0, d1, d2, -⟩ := hT'.run_at hr
        have d3 := (hT'.held r (List.mem_of_getElem? hr)).2.cell hk
        have l3 := (hT'.held r (List.mem_of_getElem? hr)).2.lt
        have HR : Hid (rs[m]? = some r) := hr
        have hL' : Below w.heap.size w (wr.alloc (.cells #[.int .i64 r.node, .int .u64 r.frm, .slice (some ⟨r.blk, 0, none⟩) n n] 34)) := hL.alloc hL.size _
        clear hT' hr
        by_cases e1 : r.node = u + 1
        · have g1 : (r.node == (u : Int) + 1) = true := by simp [e1]
          by_cases e2 : r.frm < t
          · have g2 : decide (r.frm < t) = true := by simp [e2]
            by_cases e3 : t ≤ r.held k
            · have g3 : decide (t ≤ r.held k) = true := by simp [e3]
              have HE : Hid (runHolds k (u + 1) t r = true) := by simp only [Hid, runHolds, decide_eq_true_eq]; exact ⟨e1, e2, e3⟩
              clear e1 e2 e3
              go_wp2
              go_ret
              exact ⟨ret_bool (by rw [List.any_eq_true.2 ⟨r, List.mem_of_getElem? HR.out, HE.out⟩]), hL'⟩
            · have g3 : decide (t ≤ r.held k) = false := by simp [e3]
              have HE : Hid (runHolds k (u + 1) t r = false) := by simp only [Hid, runHolds, decide_eq_false_iff_not]; exact fun h => e3 h.2.2
              clear e1 e2 e3
              go_wp2
              go_roundg (rs.length - (m + 1))
              case measure => go_light; omega
              case rel => go_light; exact ⟨m + 1, by omega, rfl, by go_num, by rw [any_take_succ _ _ _ _ HR.out, HN.out, HE.out]; rfl, hL'⟩
          · have g2 : decide (r.frm < t) = false := by simp [e2]
            have HE : Hid (runHolds k (u + 1) t r = false) := by simp only [Hid, runHolds, decide_eq_false_iff_not]; exact fun h => e2 h.2.1
            clear e1 e2
            go_wp2
            go_roundg (rs.length - (m + 1))
            case measure => go_light; omega
            case rel => go_light; exact ⟨m + 1, by omega, rfl, by go_num, by rw [any_take_succ _ _ _ _ HR.out, HN.out, HE.out]; rfl, hL'⟩
        · have g1 : (r.node == (u : Int) + 1) = false := by simp [e1]
          have HE : Hid (runHolds k (u + 1) t r = false) := by simp only [Hid, runHolds, decide_eq_false_iff_not]; exact fun h => e1 h.1
          clear e1
          go_wp2
          go_roundg (rs.length - (m + 1))
          case measure => go_light; omega
          case rel => go_light; exact ⟨m + 1, by omega, rfl, by go_num, by rw [any_take_succ _ _ _ _ HR.out, HN.out, HE.out]; rfl, hL'⟩
      · have hno := HN.out
        rw [List.take_of_length_le (by omega)] at hno
        go_wp2
        go_ret
        exact ⟨ret_bool (by first | rfl | exact hno.symm), hL⟩
end Go.Proofs.Ybulkbsio
