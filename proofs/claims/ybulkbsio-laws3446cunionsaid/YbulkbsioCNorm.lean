import Derived.Test.YbulkbsioCHold
namespace Go.Proofs.Ybulkbsio
open Go.RowKit Go.Deep

theorem TB.same {w w' : World} {S : Nat → Prop} {tb n : Nat} {v0 v1 : Value} {rb : Nat} {R : Nat → Nat} {X : Nat → Nat → Int} {rs : List Rn} (h : TB w S tb n v0 v1 rb R X rs) (e : w'.heap = w.heap) : TB w' S tb n v0 v1 rb R X rs :=
  ⟨by rw [e]; exact h.tbl, h.stb, h.tab.kept (fun k _ _ => by rw [e])⟩

theorem Kept.same {S : Nat → Prop} {a b c : World} (h : Kept S a b) (e : c.heap = b.heap) (e1 : c.os = b.os) (e2 : c.tape = b.tape) (e3 : c.output = b.output) : Kept S a c :=
  ⟨e1.trans h.os, e2.trans h.tape, e3.trans h.output, by rw [e]; exact h.size, fun k hk hs => by rw [e]; exact h.block k hk hs⟩

theorem TB.setRow {w : World} {S : Nat → Prop} {tb n : Nat} {v0 v1 : Value} {rb : Nat} {R : Nat → Nat} {X : Nat → Nat → Int} {rs : List Rn} (h : TB w S tb n v0 v1 rb R X rs) {i : Nat} (hi : i < n) (j : Nat) (v : Int) :
    TB (w.setCell ⟨R i, j, none⟩ (.int .u64 v)) S tb n v0 v1 rb R (fun a b => if a = i ∧ b = j then v else X a b) rs :=
  ⟨by rw [blk_setCell_other _ _ _ _ (ne_of_types h.tbl (h.tab.row i hi).2 (by decide))]; exact h.tbl, h.stb, h.tab.setRow hi j v⟩

theorem TB.setHeld {w : World} {S : Nat → Prop} {tb n : Nat} {v0 v1 : Value} {rb : Nat} {R : Nat → Nat} {X : Nat → Nat → Int} {rs : List Rn} (h : TB w S tb n v0 v1 rb R X rs) {k : Nat} {r : Rn} (hr : rs[k]? = some r) (j : Nat) (v : Int) :
    TB (w.setCell ⟨r.blk, j, none⟩ (.int .u64 v)) S tb n v0 v1 rb R X (rs.set k (r.put j v)) :=
  ⟨by rw [blk_setCell_other _ _ _ _ (ne_of_types h.tbl (h.tab.held r (List.mem_of_getElem? hr)).2 (by decide))]; exact h.tbl, h.stb, h.tab.setHeld hr j v⟩

/-- The world in 'normalize'. -/
structure Nm (w wr : World) (S : Nat → Prop) (tb n : Nat) (v0 v1 : Value) (rb : Nat) (R : Nat → Nat) (X : Nat → Nat → Int) (rs : List Rn) (X' : Nat → Nat → Int) (rs' : List Rn) : Prop where
  kept : Kept S w wr
  tb : TB wr S tb n v0 v1 rb R X' rs'
  good : Good n rs'
  len : rs'.length = rs.length
  same : ∀ a u t, HP a u t X' rs' ↔ HP a u t X rs

/-- Where 'end' points, and what it holds. -/
def EndAt (n k : Nat) (R : Nat → Nat) (X' : Nat → Nat → Int) (rs' : List Rn) (i : Nat) (u : Int) (eb eo : Nat) (ev : Int) : Prop :=
  (∃ uu : Nat, uu < n ∧ u = uu + 1 ∧ eb = R k ∧ eo = uu ∧ ev = X' k uu) ∨ (∃ (m : Nat) (r : Rn), m < i ∧ rs'[m]? = some r ∧ r.node = u ∧ eb = r.blk ∧ eo = k ∧ ev = r.held k)

theorem Nm.drew {w wr wr' : World} {S : Nat → Prop} {tb n : Nat} {v0 v1 : Value} {rb : Nat} {R : Nat → Nat} {X : Nat → Nat → Int} {rs : List Rn} {X' : Nat → Nat → Int} {rs' : List Rn} (h : Nm w wr S tb n v0 v1 rb R X rs X' rs') (e : wr'.heap = wr.heap) (e1 : wr'.os = wr.os) (e2 : wr'.tape = wr.tape) (e3 : wr'.output = wr.output) : Nm w wr' S tb n v0 v1 rb R X rs X' rs' :=
  ⟨h.kept.same e e1 e2 e3, h.tb.same e, h.good, h.len, h.same⟩

theorem EndAt.cell {w wr : World} {S : Nat → Prop} {tb n : Nat} {v0 v1 : Value} {rb : Nat} {R : Nat → Nat} {X : Nat → Nat → Int} {rs : List Rn} {X' : Nat → Nat → Int} {rs' : List Rn} (h : Nm w wr S tb n v0 v1 rb R X rs X' rs') {k i : Nat} {u : Int} {eb eo : Nat} {ev : Int} (hk : k < n) (he : EndAt n k R X' rs' i u eb eo ev) :
    wr.cell? ⟨eb, eo, none⟩ = some (.int .u64 ev) ∧ (∀ o, wr.frozen? ⟨eb, o, none⟩ = false) ∧ v1.ownBlock ≠ some eb ∧ tb ≠ eb ∧ eb < wr.heap.size := by
  rcases he with ⟨uu, hu, -, rfl, rfl, rfl⟩ | ⟨m, r, hm, hr, -, rfl, rfl, rfl⟩
  · have hrow := (h.tb.tab.row k hk).2
    exact ⟨hrow.cell hu, fun o => hrow.frozen o, h.tb.tab.own_ne hrow, ne_of_types h.tb.tbl hrow (by decide), hrow.lt⟩
  · have hrow := (h.tb.tab.held r (List.mem_of_getElem? hr)).2
    exact ⟨hrow.cell hk, fun o => hrow.frozen o, h.tb.tab.own_ne hrow, ne_of_types h.tb.tbl hrow (by decide), hrow.lt⟩

theorem EndAt.ne {w wr : World} {S : Nat → Prop} {tb n : Nat} {v0 v1 : Value} {rb : Nat} {R : Nat → Nat} {X : Nat → Nat → Int} {rs : List Rn} {X' : Nat → Nat → Int} {rs' : List Rn} (h : Nm w wr S tb n v0 v1 rb R X rs X' rs') {k i : Nat} {u : Int} {eb eo : Nat} {ev : Int} (hk : k < n) (he : EndAt n k R X' rs' i u eb eo ev) {r : Rn} (hr : rs'[i]? = some r) : eb ≠ r.blk := by
  rcases he with ⟨uu, hu, -, rfl, rfl, rfl⟩ | ⟨m, r', hm, hr', -, rfl, rfl, rfl⟩
  · exact h.tb.tab.apart k r hk (List.mem_of_getElem? hr)
  · intro e
    have := blk_inj h.tb.tab.nodup hr' hr e
    omega

theorem EndAt.next {n k : Nat} {R : Nat → Nat} {X' : Nat → Nat → Int} {rs' : List Rn} {i : Nat} {u : Int} {r : Rn} (hr : rs'[i]? = some r) (hu : r.node = u) : EndAt n k R X' rs' (i + 1) u r.blk k (r.held k) :=
  .inr ⟨i, r, by omega, hr, hu, rfl, rfl, rfl⟩

theorem Nm.absorb {w wr : World} {S : Nat → Prop} {tb n : Nat} {v0 v1 : Value} {rb : Nat} {R : Nat → Nat} {X : Nat → Nat → Int} {rs : List Rn} {X' : Nat → Nat → Int} {rs' : List Rn} (h : Nm w wr S tb n v0 v1 rb R X rs X' rs') {k i : Nat} {u : Int} {eb eo : Nat} {ev : Int} (hk : k < n) (he : EndAt n k R X' rs' i u eb eo ev) {r : Rn} (hr : rs'[i]? = some r) (hu : r.node = u) (hle : r.frm ≤ ev) (M : Int) (hM : M = max ev (r.held k)) :
    ∃ X2 rs2, Nm w ((wr.setCell ⟨eb, eo, none⟩ (.int .u64 M)).setCell ⟨r.blk, k, none⟩ (.int .u64 r.frm)) S tb n v0 v1 rb R X rs X2 rs2 ∧ EndAt n k R X2 rs2 (i + 1) u eb eo M := by
  rcases he with ⟨uu, hu', hu2, rfl, e2, rfl⟩ | ⟨m, rm, hm, hrm, hu', rfl, e2, rfl⟩
  · rw [e2]
    refine ⟨_, _, ⟨?_, (h.tb.setRow hk uu M).setHeld hr k r.frm, good_put h.good hr _ _, by rw [List.length_set]; exact h.len, fun a b t => ?_⟩, .inl ⟨uu, hu', hu2, rfl, rfl, by simp⟩⟩
    · exact (h.kept.setCell (p := ⟨R k, uu, none⟩) (fun _ => (h.tb.tab.row k hk).1) _).setCell (p := ⟨r.blk, k, none⟩) (fun _ => (h.tb.tab.held r (List.mem_of_getElem? hr)).1) _
    · rw [← h.same a b t]
      exact hold_row hr (by omega) hle M hM a b t
  · rw [e2]
    have hmi : m ≠ i := by omega
    have hr2 : (rs'.set m (rm.put k M))[i]? = some r := by rw [List.getElem?_set_ne hmi]; exact hr
    have hlt := h.good.1 m i rm r hm hrm hr
    refine ⟨X', _, ⟨?_, (h.tb.setHeld hrm k M).setHeld hr2 k r.frm, good_put (good_put h.good hrm _ _) hr2 _ _, by rw [List.length_set, List.length_set]; exact h.len, fun a b t => ?_⟩, .inr ⟨m, rm.put k M, by omega, ?_, hu', rfl, rfl, by simp [Rn.put]⟩⟩
    · exact (h.kept.setCell (p := ⟨rm.blk, k, none⟩) (fun _ => (h.tb.tab.held rm (List.mem_of_getElem? hrm)).1) _).setCell (p := ⟨r.blk, k, none⟩) (fun _ => (h.tb.tab.held r (List.mem_of_getElem? hr)).1) _
    · rw [← h.same a b t]
      exact hold_run hr hrm hmi (by omega) (by unfold lt2 at hlt; omega) hle M hM a b t
    · rw [List.getElem?_set_ne (fun e => hmi e.symm), List.getElem?_set_self (List.getElem?_eq_some_iff.1 hrm).1]

end Go.Proofs.Ybulkbsio
