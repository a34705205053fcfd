import Derived.Test.YbulkbsioCAdd
namespace Go.Proofs.Ybulkbsio
open Go.RowKit Go.Deep

theorem hold_raise {k j : Nat} {X : Nat → Nat → Int} {rs : List Rn} {i : Nat} {r ro : Rn} (hr : rs[i]? = some r) (hn : r.node = ro.node) (hf : r.frm = ro.frm) (M : Int) (hM : M = max (r.held k) (ro.held j)) (a u : Nat) (t : Int) :
    HP a u t X (rs.set i (r.put k M)) ↔ (HP a u t X rs ∨ (a = k ∧ hit j u t ro)) := by
  rw [hold_put hr M (by omega) a u t]
  constructor
  · rintro (h | ⟨h1, h2, h3, h4⟩)
    · exact .inl h
    · by_cases h5 : t ≤ ro.held j
      · exact .inr ⟨h1, by omega, by omega, h5⟩
      · refine .inl (.inr ⟨i, r, hr, h2, h3, ?_⟩)
        subst h1
        omega
  · rintro (h | ⟨h1, h2, h3, h4⟩)
    · exact .inl h
    · exact .inr ⟨h1, by omega, by omega, by omega⟩

/-- The rows, the first m of them raised. -/
def rowX (k j m : Nat) (X Xo : Nat → Nat → Int) (a b : Nat) : Int := if a = k ∧ b < m then max (X a b) (Xo j b) else X a b

theorem rowX_step {k j m : Nat} {X Xo : Nat → Nat → Int} (M : Int) (hM : M = max (X k m) (Xo j m)) (a b : Nat) : (if a = k ∧ b = m then M else rowX k j m X Xo a b) = rowX k j (m + 1) X Xo a b := by
  unfold rowX
  by_cases e1 : a = k
  · subst e1
    by_cases e2 : b = m
    · subst e2; simp [hM]
    · by_cases e3 : b < m
      · simp [e2, e3, show b < m + 1 by omega]
      · simp [e2, e3, show ¬ b < m + 1 by omega]
  · simp [e1]

theorem hold_rows {n k j : Nat} {X Xo : Nat → Nat → Int} {rs : List Rn} (a u : Nat) (t : Int) (hu : u < n) : HP a u t (rowX k j n X Xo) rs ↔ (HP a u t X rs ∨ (a = k ∧ t ≤ Xo j u)) := by
  unfold HP rowX
  generalize (∃ (q : Nat) (x : Rn), rs[q]? = some x ∧ hit a u t x) = E
  by_cases e : a = k
  · subst e
    simp only [hu, and_self, if_true, true_and]
    constructor
    · rintro (h | h)
      · by_cases h' : t ≤ Xo j u
        · exact .inr h'
        · exact .inl (.inl (by omega))
      · exact .inl (.inr h)
    · rintro ((h | h) | h)
      · exact .inl (by omega)
      · exact .inr h
      · exact .inl (by omega)
  · simp only [e, false_and, if_false, or_false]

/-- The world in raise's second loop: m runs of o are taken over. -/
structure Ra (w wr : World) (S : Nat → Prop) (tb n : Nat) (v0 : Value) (rb : Nat) (R : Nat → Nat) (X1 : Nat → Nat → Int) (rs : List Rn) (k j : Nat) (rso : List Rn) (m : Nat) (v1 : Value) (rs' : List Rn) : Prop where
  kept : Kept S w wr
  tb : TB wr (Up S w) tb n v0 v1 rb R X1 rs'
  good : Good n rs'
  len : rs'.length ≤ rs.length + m
  same : ∀ a u t, a < n → (HP a u t X1 rs' ↔ (HP a u t X1 rs ∨ (a = k ∧ ∃ (q : Nat) (r : Rn), q < m ∧ rso[q]? = some r ∧ hit j u t r)))

theorem Ra.alloc {w wr : World} {S : Nat → Prop} {tb n : Nat} {v0 : Value} {rb : Nat} {R : Nat → Nat} {X1 : Nat → Nat → Int} {rs : List Rn} {k j : Nat} {rso : List Rn} {m : Nat} {v1 : Value} {rs' : List Rn} (h : Ra w wr S tb n v0 rb R X1 rs k j rso m v1 rs') (o : Obj) : Ra w (wr.alloc o) S tb n v0 rb R X1 rs k j rso m v1 rs' :=
  ⟨h.kept.alloc o, h.tb.later ((Below.refl _ _).alloc (Nat.le_refl _) _), h.good, h.len, h.same⟩

/-- A run of o of which j holds nothing. -/
theorem Ra.skip {w wr : World} {S : Nat → Prop} {tb n : Nat} {v0 : Value} {rb : Nat} {R : Nat → Nat} {X1 : Nat → Nat → Int} {rs : List Rn} {k j : Nat} {rso : List Rn} {m : Nat} {v1 : Value} {rs' : List Rn} (h : Ra w wr S tb n v0 rb R X1 rs k j rso m v1 rs') {ro : Rn} (hro : rso[m]? = some ro) (hn : ¬ ro.frm < ro.held j) : Ra w wr S tb n v0 rb R X1 rs k j rso (m + 1) v1 rs' :=
  ⟨h.kept, h.tb, h.good, by have := h.len; omega, fun a u t ha => (h.same a u t ha).trans ⟨fun hh => hh.imp id (fun ⟨h1, q, r, hq, hr, hx⟩ => ⟨h1, q, r, by omega, hr, hx⟩), fun hh => hh.imp id (fun ⟨h1, q, r, hq, hr, hx⟩ => ⟨h1, q, r, by
    by_cases e : q = m
    · subst e
      rw [hro] at hr
      simp only [Option.some.injEq] at hr
      subst hr
      have := hx.2
      omega
    · omega, hr, hx⟩)⟩⟩

theorem Ra.step {w wr w3 W : World} {S : Nat → Prop} {tb n : Nat} {v0 : Value} {rb : Nat} {R : Nat → Nat} {X1 : Nat → Nat → Int} {rs : List Rn} {k j : Nat} {rso : List Rn} {m : Nat} {v1 v3 : Value} {rs' rs3 : List Rn} (h : Ra w wr S tb n v0 rb R X1 rs k j rso m v1 rs') {ro r3 : Rn} {i3 : Nat} (hro : rso[m]? = some ro) (hg : 1 ≤ ro.node ∧ ro.node ≤ n)
    (hK3 : Kept (Up S w) wr w3) (hT3 : TB w3 (Up (Up S w) wr) tb n v0 v3 rb R X1 rs3) (hR3 : RunTo n ro.node ro.frm rs' rs3 i3 r3) (M : Int) (hM : M = max (r3.held k) (ro.held j)) (hW : W.heap = w3.heap) (e1 : W.os = w3.os) (e2 : W.tape = w3.tape) (e3 : W.output = w3.output) :
    Ra w (W.setCell ⟨r3.blk, k, none⟩ (.int .u64 M)) S tb n v0 rb R X1 rs k j rso (m + 1) v3 (rs3.set i3 (r3.put k M)) := by
  have hri : rs3[i3]? = some r3 := hR3.2.1
  have hlen : rs3.length ≤ rs'.length + 1 := hR3.2.2.2.2.2.1
  have hs := h.kept.size
  have hup : ∀ q, q < w.heap.size → Up S w q → S q := fun q hq h => h.elim id (fun h => by omega)
  have hT4 : TB w3 (Up S w) tb n v0 v3 rb R X1 rs3 :=
    have key : ∀ q, Up (Up S w) wr q → Up S w q := fun _ h => h.elim id (fun h => .inr (by omega))
    ⟨hT3.tbl, key _ hT3.stb, hT3.tab.mono (fun q hq _ => key q hq)⟩
  refine ⟨?_, (hT4.same hW).setHeld hri k M, good_put (run_to_good hR3 h.good hg.1 hg.2) hri k M, by rw [List.length_set]; have := h.len; omega, fun a u t ha => ?_⟩
  · exact (((h.kept.trans hK3 hup)).same hW e1 e2 e3).setCell (p := ⟨r3.blk, k, none⟩) (fun hq => hup _ hq (hT4.tab.held r3 (List.mem_of_getElem? hri)).1) _
  · rw [hold_raise hri (by rw [hR3.2.2.1]) (by rw [hR3.2.2.2.1]) M hM a u t, run_to_hold hR3 a u t ha, h.same a u t ha]
    constructor
    · rintro ((h | ⟨h1, q, r, hq, hr, hx⟩) | ⟨h1, hx⟩)
      · exact .inl h
      · exact .inr ⟨h1, q, r, by omega, hr, hx⟩
      · exact .inr ⟨h1, m, ro, by omega, hro, hx⟩
    · rintro (h | ⟨h1, q, r, hq, hr, hx⟩)
      · exact .inl (.inl h)
      · by_cases e : q = m
        · subst e
          rw [hro] at hr
          simp only [Option.some.injEq] at hr
          subst hr
          exact .inr ⟨h1, hx⟩
        · exact .inl (.inr ⟨h1, q, r, by omega, hr, hx⟩)

end Go.Proofs.Ybulkbsio
