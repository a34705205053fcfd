import Derived.Test.YbulkbsioBase
namespace Go.Proofs.Ybulkbsio
open Go.RowKit Go.Deep

/-- What 'lower' makes of a run. -/
def lowR (k : Nat) (u t : Int) (r : Rn) : Rn := if r.node = u ∧ r.frm < t ∧ t ≤ r.held k then r.put k (IntKind.u64.wrap (t - 1)) else r

theorem lowR_no {k : Nat} {u t : Int} {r : Rn} (h : ¬ (r.node = u ∧ r.frm < t ∧ t ≤ r.held k)) : lowR k u t r = r := if_neg h

def lowX (k : Nat) (u t : Int) (X : Nat → Nat → Int) : Nat → Nat → Int := fun i j => if i = k ∧ (j : Int) + 1 = u ∧ t ≤ X i j then IntKind.u64.wrap (t - 1) else X i j

def mixR (f : Rn → Rn) (rs : List Rn) (i : Nat) : List Rn := (rs.take i).map f ++ rs.drop i

theorem mix_zero (f : Rn → Rn) (rs : List Rn) : mixR f rs 0 = rs := by simp [mixR]
theorem mix_all (f : Rn → Rn) (rs : List Rn) : mixR f rs rs.length = rs.map f := by simp [mixR]
theorem mix_len (f : Rn → Rn) (rs : List Rn) (i : Nat) : (mixR f rs i).length = rs.length := by simp [mixR]; omega
theorem mix_get (f : Rn → Rn) (rs : List Rn) (i : Nat) (r : Rn) (h : rs[i]? = some r) : (mixR f rs i)[i]? = some r := by
  have hi : i < rs.length := (List.getElem?_eq_some_iff.1 h).1
  rw [mixR, List.getElem?_append_right (by simp; omega)]
  simp [Nat.min_eq_left (Nat.le_of_lt hi), h]
theorem mix_step (f : Rn → Rn) (rs : List Rn) (i : Nat) (r : Rn) (h : rs[i]? = some r) : mixR f rs (i + 1) = (mixR f rs i).set i (f r) := by
  have hi : i < rs.length := (List.getElem?_eq_some_iff.1 h).1
  have hr : rs[i] = r := (List.getElem?_eq_some_iff.1 h).2
  rw [mixR, mixR, List.set_append_right _ _ (by simp; omega)]
  rw [List.take_succ_eq_append_getElem hi, List.drop_eq_getElem_cons hi, hr]
  simp [Nat.min_eq_left (Nat.le_of_lt hi)]
theorem mix_same (f : Rn → Rn) (rs : List Rn) (i : Nat) (r : Rn) (h : rs[i]? = some r) (hf : f r = r) : mixR f rs (i + 1) = mixR f rs i := by
  rw [mix_step f rs i r h, hf]
  have := mix_get f rs i r h
  apply List.ext_getElem?
  intro j
  rw [List.getElem?_set]
  split
  · rename_i e; subst e
    split
    · exact this.symm
    · rw [List.getElem?_eq_none (by omega)]
  · rfl

/-- The world at the head of lower's loop. -/
structure LowRel (w wr : World) (S : Nat → Prop) (n tb : Nat) (v0 v1 : Value) (rb : Nat) (R : Nat → Nat) (X : Nat → Nat → Int) (rs : List Rn) (U t : Int) : Prop where
  kept : Kept S w wr
  tag : wr.heap[w.heap.size]? = some (.cells #[.int .i64 U, .int .u64 t] 31 (0, 0))
  tbl : wr.heap[tb]? = some (.cells #[v0, v1] 27 (0, 0))
  tab : Tab wr S n v0 v1 rb R X rs

theorem lowRel_start {w : World} {S : Nat → Prop} {n tb : Nat} {v0 v1 : Value} {rb : Nat} {R : Nat → Nat} {X : Nat → Nat → Int} {rs : List Rn} {U t : Int} (hT : Tab w S n v0 v1 rb R X rs) (hb : w.heap[tb]? = some (.cells #[v0, v1] 27 (0, 0))) (q : Nat) :
    LowRel w ((w.alloc (.cells #[.int .i64 U, .int .u64 t] 31)).drewN q) S n tb v0 v1 rb R X rs U t := by
  have hbl : tb < w.heap.size := (Array.getElem?_eq_some_iff.1 hb).1
  have ka : Kept S w (w.alloc (.cells #[.int .i64 U, .int .u64 t] 31)) := (Kept.refl S w).alloc _
  refine ⟨⟨ka.os, ka.tape, ka.output, ka.size, ka.block⟩, ?_, ?_, ?_⟩
  · show (w.alloc (.cells #[.int .i64 U, .int .u64 t] 31)).heap[w.heap.size]? = _
    rw [blk_alloc_new]
  · show (w.alloc (.cells #[.int .i64 U, .int .u64 t] 31)).heap[tb]? = _
    rw [blk_alloc_lt _ _ _ hbl]; exact hb
  · exact (hT.alloc _).kept (fun _ _ _ => rfl)

theorem LowRel.setRow {w wr : World} {S : Nat → Prop} {n tb : Nat} {v0 v1 : Value} {rb : Nat} {R : Nat → Nat} {X : Nat → Nat → Int} {rs : List Rn} {U t : Int} (h : LowRel w wr S n tb v0 v1 rb R X rs U t) {i : Nat} (hi : i < n) (j : Nat) (v : Int) :
    LowRel w (wr.setCell ⟨R i, j, none⟩ (.int .u64 v)) S n tb v0 v1 rb R (fun a b => if a = i ∧ b = j then v else X a b) rs U t :=
  ⟨h.kept.setCell (fun _ => (h.tab.row i hi).1) _, by rw [blk_setCell_other _ _ _ _ (ne_of_types h.tag (h.tab.row i hi).2 (by decide))]; exact h.tag,
    by rw [blk_setCell_other _ _ _ _ (ne_of_types h.tbl (h.tab.row i hi).2 (by decide))]; exact h.tbl, h.tab.setRow hi j v⟩

theorem LowRel.setHeld {w wr : World} {S : Nat → Prop} {n tb : Nat} {v0 v1 : Value} {rb : Nat} {R : Nat → Nat} {X : Nat → Nat → Int} {rs : List Rn} {U t : Int} (h : LowRel w wr S n tb v0 v1 rb R X rs U t) {k : Nat} {r : Rn} (hr : rs[k]? = some r) (j : Nat) (v : Int) :
    LowRel w (wr.setCell ⟨r.blk, j, none⟩ (.int .u64 v)) S n tb v0 v1 rb R X (rs.set k (r.put j v)) U t := by
  have hm := h.tab.held r (List.mem_of_getElem? hr)
  exact ⟨h.kept.setCell (fun _ => hm.1) _, by rw [blk_setCell_other _ _ _ _ (ne_of_types h.tag hm.2 (by decide))]; exact h.tag,
    by rw [blk_setCell_other _ _ _ _ (ne_of_types h.tbl hm.2 (by decide))]; exact h.tbl, h.tab.setHeld hr j v⟩

theorem LowRel.drewN {w wr : World} {S : Nat → Prop} {n tb : Nat} {v0 v1 : Value} {rb : Nat} {R : Nat → Nat} {X : Nat → Nat → Int} {rs : List Rn} {U t : Int} (h : LowRel w wr S n tb v0 v1 rb R X rs U t) (q : Nat) : LowRel w (wr.drewN q) S n tb v0 v1 rb R X rs U t :=
  ⟨⟨h.kept.os, h.kept.tape, h.kept.output, h.kept.size, h.kept.block⟩, h.tag, h.tbl, h.tab.kept (fun _ _ _ => rfl)⟩

theorem LowRel.congrX {w wr : World} {S : Nat → Prop} {n tb : Nat} {v0 v1 : Value} {rb : Nat} {R : Nat → Nat} {X Y : Nat → Nat → Int} {rs : List Rn} {U t : Int} (h : LowRel w wr S n tb v0 v1 rb R X rs U t) (e : ∀ i j, i < n → j < n → X i j = Y i j) : LowRel w wr S n tb v0 v1 rb R Y rs U t :=
  ⟨h.kept, h.tag, h.tbl, ⟨h.tab.hv0, h.tab.srb, h.tab.top, fun i hi => ⟨(h.tab.row i hi).1, (h.tab.row i hi).2.congr (fun j hj => by rw [e i j hi hj])⟩, h.tab.inj, h.tab.own, h.tab.sown, h.tab.held, h.tab.apart, h.tab.nodup⟩⟩

set_option maxHeartbeats 400000 in
theorem lower_any (w : World) (S : Nat → Prop) (n : Nat) (tb rb : Nat) (R : Nat → Nat) (X : Nat → Nat → Int) (rs : List Rn) (v0 v1 : Value) (K U t : Int) (h6 : n ≤ 6) (hK1 : 1 ≤ K) (hKn : K ≤ n) (hU1 : 1 ≤ U) (hUn : U ≤ n)
    (hT : Tab w S n v0 v1 rb R X rs) (hb : w.heap[tb]? = some (.cells #[v0, v1] 27 (0, 0))) (hrl : rs.length ≤ 1000000) :
    Calls Yba.prog 8 #[.pointer (some ⟨tb, 0, none⟩), .int .i64 K, .agg #[.int .i64 U, .int .u64 t]] w fun e w' => e = .returned (.tuple #[]) ∧ Kept S w w' ∧
      w'.heap[tb]? = some (.cells #[v0, v1] 27 (0, 0)) ∧ Tab w' S n v0 v1 rb R (lowX (K - 1).toNat U t X) (rs.map (lowR (K - 1).toNat U t)) := by
  obtain ⟨k, rfl⟩ : ∃ k : Nat, K = k + 1 := ⟨(K - 1).toNat, by omega⟩
  obtain ⟨u, rfl⟩ : ∃ u : Nat, U = u + 1 := ⟨(U - 1).toNat, by omega⟩
  have hk : k < n := by omega
  have hu : u < n := by omega
  rw [show ((k : Int) + 1 - 1).toNat = k from by omega]
  obtain ⟨va, cap, rfl, hcap, hcm, hcells⟩ := hT.slice
  obtain rfl := hT.hv0
  have hkz : (k : Int) < (n : Int) := by omega
  have huz : (u : Int) < (n : Int) := by omega
  have hbl : tb < w.heap.size := (Array.getElem?_eq_some_iff.1 hb).1
  have c0 : w.cell? ⟨tb, 0, none⟩ = some (.slice (some ⟨rb, 0, none⟩) n n) := by simp [World.cell?, hb]
  have c1 : w.cell? ⟨tb, 1, none⟩ = some (.slice va rs.length cap) := by simp [World.cell?, hb]
  have c2 : w.cell? ⟨rb, k, none⟩ = some (.slice (some ⟨R k, 0, none⟩) n n) := hT.top.cell hk
  have c3 : w.cell? ⟨R k, u, none⟩ = some (.int .u64 (X k u)) := (hT.row k hk).2.cell hu
  have f3 : w.frozen? ⟨R k, u, none⟩ = false := (hT.row k hk).2.frozen u
  have hrb : rb < w.heap.size := hT.top.lt
  have hRk : R k < w.heap.size := (hT.row k hk).2.lt
  have hne : tb ≠ R k := fun e => by
    obtain ⟨c, hc, _⟩ := (hT.row k hk).2
    rw [← e, hb] at hc
    simp at hc
  go_enter Yba.func8, Yba.ntmps8
  go_wp2
  go_quiet (fail)
  go_wp2
  all_goals
    go_loopg [39] rs.length (fun g i wr => ∃ m : Nat, m ≤ rs.length ∧ g = rs.length - m ∧ i = .int .i64 m ∧ LowRel w wr S n tb (.slice (some ⟨rb, 0, none⟩) n n) (.slice va rs.length cap) rb R (lowX k (u + 1) t X) (mixR (lowR k (u + 1) t) rs m) (u + 1) t)
    case atStart =>
      go_light
      refine ⟨0, Nat.zero_le _, rfl, rfl, ?_⟩
      rw [mix_zero]
      first
        | exact ((lowRel_start hT hb nq).setRow hk u _).congrX (fun i j _ _ => by
            have ht : t ≤ X k u := by assumption
            simp only [lowX]
            by_cases e : i = k ∧ j = u
            · obtain ⟨rfl, rfl⟩ := e
              simp [ht]
            · rw [if_neg e, if_neg (fun h => e ⟨h.1, by omega⟩)])
        | exact (lowRel_start hT hb nq).congrX (fun i j _ _ => by
            have ht : ¬ t ≤ X k u := by omega
            simp only [lowX]
            rw [if_neg (fun h => ht (by
              obtain ⟨rfl, h2, h3⟩ := h
              have : j = u := by omega
              subst this
              exact h3))])
    case round =>
      obtain ⟨m, hm, rfl, rfl, hL⟩ := hrel
      clear hT hb c0 c1 c2 c3 f3 hrb hRk hcells
      by_cases hmr : m < rs.length
      · have hmz : (m : Int) < (rs.length : Int) := by omega
        obtain ⟨r, hr⟩ : ∃ r, rs[m]? = some r := ⟨_, List.getElem?_eq_getElem hmr⟩
        have hr' := mix_get (lowR k (u + 1) t) rs m r hr
        obtain ⟨va', cap', hvv, -, -, hcells⟩ := hL.tab.slice
        obtain ⟨g, hva, -, -, hcl, -⟩ := hcells (by rw [mix_len]; omega)
        simp only [Value.slice.injEq] at hvv
        obtain ⟨rfl, -, rfl⟩ := hvv
        subst hva
        obtain ⟨d0, d1, d2⟩ := hcl m r hr'
        have d3 := (hL.tab.held r (List.mem_of_getElem? hr')).2.cell hk
        have d4 := (hL.tab.held r (List.mem_of_getElem? hr')).2.frozen k
        have d5 : wr.cell? ⟨tb, 1, none⟩ = some (.slice (some ⟨g, 0, none⟩) rs.length cap) := by simp [World.cell?, hL.tbl]
        have d6 : wr.cell? ⟨w.heap.size, 0, none⟩ = some (.int .i64 (u + 1)) := by simp [World.cell?, hL.tag]
        have d7 : wr.cell? ⟨w.heap.size, 1, none⟩ = some (.int .u64 t) := by simp [World.cell?, hL.tag]
        have HL : Hid (LowRel w wr S n tb (.slice (some ⟨rb, 0, none⟩) n n) (.slice (some ⟨g, 0, none⟩) rs.length cap) rb R (lowX k (u + 1) t X) (mixR (lowR k (u + 1) t) rs m) (u + 1) t) := hL
        have HR : Hid (rs[m]? = some r ∧ (mixR (lowR k (u + 1) t) rs m)[m]? = some r) := ⟨hr, hr'⟩
        clear hL hr hr' hcl hcells
        by_cases e1 : r.node = u + 1
        · have g1 : (r.node == (u : Int) + 1) = true := by simp [e1]
          by_cases e2 : r.frm < t
          · have g2 : decide (r.frm < t) = true := by simp [e2]
            by_cases e3 : t ≤ r.held k
            · have g3 : decide (t ≤ r.held k) = true := by simp [e3]
              have HE : Hid (r.node = u + 1 ∧ r.frm < t ∧ t ≤ r.held k) := ⟨e1, e2, e3⟩
              clear e1 e2 e3
              go_wp2
              go_quiet (fail)
              go_wp2
              go_region
              all_goals go_wp2
              all_goals
                go_roundg (rs.length - (m + 1))
                case measure => go_light; omega
                case rel =>
                  go_light
                  refine ⟨m + 1, by omega, rfl, by go_num, ?_⟩
                  rw [mix_step _ _ _ _ HR.out.1, show lowR k (u + 1) t r = r.put k (IntKind.u64.wrap (t - 1)) from if_pos HE.out]
                  exact LowRel.drewN (HL.out.setHeld HR.out.2 k _) _
            · have g3 : decide (t ≤ r.held k) = false := by simp [e3]
              have HE : Hid (¬ (r.node = u + 1 ∧ r.frm < t ∧ t ≤ r.held k)) := fun h => e3 h.2.2
              clear e1 e2 e3
              go_wp2
              go_quiet (fail)
              go_wp2
              go_roundg (rs.length - (m + 1))
              case measure => go_light; omega
              case rel =>
                go_light
                refine ⟨m + 1, by omega, rfl, by go_num, ?_⟩
                rw [mix_same _ _ _ _ HR.out.1 (lowR_no HE.out)]
                exact HL.out.drewN _
          · have g2 : decide (r.frm < t) = false := by simp [e2]
            have HE : Hid (¬ (r.node = u + 1 ∧ r.frm < t ∧ t ≤ r.held k)) := fun h => e2 h.2.1
            clear e1 e2
            go_wp2
            go_quiet (fail)
            go_wp2
            go_roundg (rs.length - (m + 1))
            case measure => go_light; omega
            case rel =>
              go_light
              refine ⟨m + 1, by omega, rfl, by go_num, ?_⟩
              rw [mix_same _ _ _ _ HR.out.1 (lowR_no HE.out)]
              exact HL.out.drewN _
        · have g1 : (r.node == (u : Int) + 1) = false := by simp [e1]
          have HE : Hid (¬ (r.node = u + 1 ∧ r.frm < t ∧ t ≤ r.held k)) := fun h => e1 h.1
          clear e1
          go_wp2
          go_quiet (fail)
          go_wp2
          go_roundg (rs.length - (m + 1))
          case measure => go_light; omega
          case rel =>
            go_light
            refine ⟨m + 1, by omega, rfl, by go_num, ?_⟩
            rw [mix_same _ _ _ _ HR.out.1 (lowR_no HE.out)]
            exact HL.out.drewN _
      · have hml : m = rs.length := by omega
        rw [hml, mix_all] at hL
        clear hml
        go_wp2
        go_end0
        exact ⟨rfl, hL.kept, hL.tbl, hL.tab⟩
end Go.Proofs.Ybulkbsio
