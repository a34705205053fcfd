import Derived.Test.YbulkbsioCExt
namespace Go.Proofs.Ybulkbsio
open Go.RowKit Go.Deep

theorem TB.up {w W w' : World} {S : Nat → Prop} {tb n : Nat} {v0 v1 : Value} {rb : Nat} {R : Nat → Nat} {X : Nat → Nat → Int} {rs : List Rn} (h : TB w' (Up S W) tb n v0 v1 rb R X rs) (hs : w.heap.size ≤ W.heap.size) : TB w' (Up S w) tb n v0 v1 rb R X rs :=
  have key : ∀ k, Up S W k → Up S w k := fun _ h => h.imp id (fun h => Nat.le_trans hs h)
  ⟨h.tbl, key _ h.stb, h.tab.mono (fun k hk _ => key k hk)⟩

theorem TB.later {w w' : World} {S : Nat → Prop} {tb n : Nat} {v0 v1 : Value} {rb : Nat} {R : Nat → Nat} {X : Nat → Nat → Int} {rs : List Rn} (h : TB w S tb n v0 v1 rb R X rs) (hb : Below w.heap.size w w') : TB w' S tb n v0 v1 rb R X rs :=
  ⟨(hb.block _ (Array.getElem?_eq_some_iff.1 h.tbl).1).trans h.tbl, h.stb, h.tab.kept (fun k _ hk => hb.block k hk)⟩

theorem TB.wide {w W : World} {S : Nat → Prop} {tb n : Nat} {v0 v1 : Value} {rb : Nat} {R : Nat → Nat} {X : Nat → Nat → Int} {rs : List Rn} (h : TB w S tb n v0 v1 rb R X rs) : TB w (Up S W) tb n v0 v1 rb R X rs :=
  ⟨h.tbl, .inl h.stb, h.tab.mono (fun _ hk _ => .inl hk)⟩

/-- 'held[k-1] = M' behind 'run', and normalize. -/
theorem put_norm (w W w3 : World) (S : Nat → Prop) (tb n rb : Nat) (R : Nat → Nat) (X : Nat → Nat → Int) (rs rs' : List Rn) (v0 v1 : Value) (k i : Nat) (U F M : Int) (r : Rn) (h6 : n ≤ 6) (hk : k < n) (hU1 : 1 ≤ U) (hUn : U ≤ n) (hKW : Kept S w W) (hK3 : Kept S W w3)
    (hT3 : TB w3 (Up S W) tb n v0 v1 rb R X rs') (hR : RunTo n U F rs rs' i r) (hg : Good n rs) (hrl : rs.length ≤ 10000) (hM : r.held k ≤ M) :
    Calls Yba.prog 20 #[.pointer (some ⟨tb, 0, none⟩), .int .i64 ((k : Int) + 1)] (w3.setCell ⟨r.blk, k, none⟩ (.int .u64 M)) fun e w' => e = .returned (.tuple #[]) ∧ Left w w' S tb n v0 rb R X rs 1 (fun a u t => a = k ∧ U = u + 1 ∧ F < t ∧ t ≤ M) := by
  have hri : rs'[i]? = some r := hR.2.1
  have hlen : rs'.length ≤ rs.length + 1 := hR.2.2.2.2.2.1
  have hg' := run_to_good hR hg hU1 hUn
  have hn : r.node = U := hR.2.2.1
  have hf : r.frm = F := hR.2.2.2.1
  have hs := hKW.size
  refine (norm_any _ (Up S W) tb n rb R X _ v0 v1 k h6 hk (hT3.setHeld hri k M) (good_put hg' hri k M) (by rw [List.length_set]; omega)).mono ?_
  rintro e w' ⟨rfl, v1', X', rs2, hK, hT', hgd, hl, hh⟩
  have hup : ∀ j, j < w.heap.size → Up S W j → S j := fun j hj h => h.elim id (fun h => by omega)
  have hK2 : Kept S w (w3.setCell ⟨r.blk, k, none⟩ (.int .u64 M)) := (hKW.trans hK3 (fun _ _ h => h)).setCell (p := ⟨r.blk, k, none⟩) (fun h => hup _ h (hT3.tab.held r (List.mem_of_getElem? hri)).1) _
  refine ⟨rfl, v1', X', rs2, hK2.trans hK hup, hT'.up hs, hgd, by rw [List.length_set] at hl; omega, fun a u t ha _ => ?_⟩
  rw [hh a u t ha, hold_put hri M (by omega) a u t, run_to_hold hR a u t ha, hn, hf]

theorem kept_cell {S : Nat → Prop} {W w3 : World} (h : Kept S W w3) {b o : Nat} {v : Value} (hS : ¬ S b) (hl : b < W.heap.size) (c : W.cell? ⟨b, o, none⟩ = some v) : w3.cell? ⟨b, o, none⟩ = some v := by
  rw [World.cell?_of_block (h.block b hl hS)]; exact c

theorem run_cell {w : World} {S : Nat → Prop} {tb n : Nat} {v0 : Value} {g l cap : Nat} {rb : Nat} {R : Nat → Nat} {X : Nat → Nat → Int} {rs : List Rn} (h : TB w S tb n v0 (.slice (some ⟨g, 0, none⟩) l cap) rb R X rs) {i : Nat} {r : Rn} (hr : rs[i]? = some r) : w.cell? ⟨g, i * 3 + 2, none⟩ = some (.slice (some ⟨r.blk, 0, none⟩) n n) := by
  obtain ⟨g', hg, -, -, -, -, d2, -⟩ := h.tab.run_at hr
  simp only [Option.some.injEq, Addr.mk.injEq, and_true] at hg
  subst hg
  exact d2

theorem held_cell {w : World} {S : Nat → Prop} {tb n : Nat} {v0 v1 : Value} {rb : Nat} {R : Nat → Nat} {X : Nat → Nat → Int} {rs : List Rn} (h : TB w S tb n v0 v1 rb R X rs) {i : Nat} {r : Rn} (hr : rs[i]? = some r) {k : Nat} (hk : k < n) : w.cell? ⟨r.blk, k, none⟩ = some (.int .u64 (r.held k)) ∧ w.frozen? ⟨r.blk, k, none⟩ = false :=
  have hrow := (h.tab.held r (List.mem_of_getElem? hr)).2
  ⟨hrow.cell hk, hrow.frozen k⟩

end Go.Proofs.Ybulkbsio
