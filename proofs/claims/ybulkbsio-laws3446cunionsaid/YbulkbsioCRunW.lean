import Derived.Test.YbulkbsioCRun
namespace Go.Proofs.Ybulkbsio
open Go.RowKit Go.Deep

/-- What 'run' does to the runs. -/
def RunTo (n : Nat) (U F : Int) (rs rs' : List Rn) (i : Nat) (r : Rn) : Prop :=
  i < rs'.length ∧ rs'[i]? = some r ∧ r.node = U ∧ r.frm = F ∧ SortedR rs' ∧ rs'.length ≤ rs.length + 1 ∧ (rs' = rs ∨ (rs' = insR rs i r ∧ i ≤ rs.length ∧ ∀ j, j < n → r.held j = F))

set_option maxHeartbeats 4000000 in
set_option maxRecDepth 100000 in
theorem run_any (w : World) (S : Nat → Prop) (tb n rb : Nat) (R : Nat → Nat) (X : Nat → Nat → Int) (rs : List Rn) (v0 v1 : Value) (U F : Int) (h6 : n ≤ 6)
    (hT : TB w S tb n v0 v1 rb R X rs) (hrl : rs.length ≤ 100000) (hs : SortedR rs) :
    Calls Yba.prog 19 #[.pointer (some ⟨tb, 0, none⟩), .int .i64 U, .int .u64 F] w fun e w' => ∃ g cap rs' i r, e = .returned (.pointer (some ⟨g, i * 3, none⟩)) ∧ Kept S w w' ∧ TB w' (Up S w) tb n v0 (.slice (some ⟨g, 0, none⟩) rs'.length cap) rb R X rs' ∧ RunTo n U F rs rs' i r := by
  obtain ⟨va, cap, rfl, hcap, hcm, -⟩ := hT.tab.slice
  obtain rfl := hT.tab.hv0
  have HT : Hid (TB w S tb n (.slice (some ⟨rb, 0, none⟩) n n) (.slice va rs.length cap) rb R X rs) := hT
  have HS : Hid (SortedR rs) := hs
  have ltb : tb < w.heap.size := (Array.getElem?_eq_some_iff.1 hT.tbl).1
  have c0 : w.cell? ⟨tb, 0, none⟩ = some (.slice (some ⟨rb, 0, none⟩) n n) := by rw [World.cell?, hT.tbl]; rfl
  have c1 : w.cell? ⟨tb, 1, none⟩ = some (.slice va rs.length cap) := by rw [World.cell?, hT.tbl]; rfl
  have HC := search_any w S n rb R X rs _ _ U F (.slice none 0 0) hT.tab (by omega) hs
  clear hT hs
  go_enter Yba.func19, Yba.ntmps19
  go_wp2_with fail
  refine HC.mono ?_
  rintro e w1 ⟨⟨i, B, hi, hlo, hhi, hf, hnf, rfl⟩, hb⟩
  have hT1 := HT.out.tab.kept (w' := w1) (fun k _ hk => hb.block k hk)
  have ht1 : w1.heap[tb]? = some (.cells #[.slice (some ⟨rb, 0, none⟩) n n, .slice va rs.length cap] 27 (0, 0)) := (hb.block _ ltb).trans HT.out.tbl
  have d0 : w1.cell? ⟨tb, 0, none⟩ = some (.slice (some ⟨rb, 0, none⟩) n n) := by rw [World.cell?, ht1]; rfl
  have d1 : w1.cell? ⟨tb, 1, none⟩ = some (.slice va rs.length cap) := by rw [World.cell?, ht1]; rfl
  have ltb1 : tb < w1.heap.size := (Array.getElem?_eq_some_iff.1 ht1).1
  clear HC c0 c1
  cases B with
  | true =>
    obtain ⟨x, hx, hxn, hxf⟩ := hf rfl
    obtain ⟨g, rfl, -, -, -, -, -, -⟩ := hT1.run_at hx
    have hil : i < rs.length := (List.getElem?_eq_some_iff.1 hx).1
    have hiz : (i : Int) < (rs.length : Int) := by omega
    have HX : Hid (rs[i]? = some x ∧ x.node = U ∧ x.frm = F) := ⟨hx, hxn, hxf⟩
    have HT1 : Hid (TB w1 (Up S w) tb n (.slice (some ⟨rb, 0, none⟩) n n) (.slice (some ⟨g, 0, none⟩) rs.length cap) rb R X rs) := ⟨ht1, .inl HT.out.stb, hT1.mono (fun k h _ => .inl h)⟩
    clear hlo hhi hf hnf hx hxn hxf hT1
    go_wp2
    go_ret
    exact ⟨g, cap, rs, i, x, rfl, Kept.of_below hb, HT1.out, hil, HX.out.1, HX.out.2.1, HX.out.2.2, HS.out, by omega, .inl rfl⟩
  | false =>
    have HLO : Hid (∀ m x, m < i → rs[m]? = some x → lt2 x.node x.frm U F) := hlo
    have HHI : Hid (∀ m x, i ≤ m → rs[m]? = some x → lt2 U F x.node x.frm) := fun m x hm hx => by
      have a1 := hhi m x hm hx
      by_cases e : m = i
      · subst e
        have a2 := hnf rfl x hx
        unfold lt2 at *; omega
      · have hil : i < rs.length := by have := (List.getElem?_eq_some_iff.1 hx).1; omega
        have a3 := hnf rfl rs[i] (List.getElem?_eq_getElem hil)
        have a4 := hhi i rs[i] (Nat.le_refl _) (List.getElem?_eq_getElem hil)
        have a5 := HS.out i m rs[i] x (by omega) (List.getElem?_eq_getElem hil) hx
        unfold lt2 at *; omega
    clear hlo hhi hf hnf
    have hmk32 := run_make_row' (P := Yba.prog) 32 24 (.int .u64 0) 8 Yba.underlying32 Yba.info24 rfl .i64 .i64 n (by omega) (by omega)
    go_wp2
    go_loopg [32] n (fun g j wr => ∃ c : Nat, c ≤ n ∧ g = n - c ∧ j = .int .i64 c ∧ Below w1.heap.size w1 wr ∧ wr.rowIs w1.heap.size 24 n (fun j => .int .u64 (if j < c then F else 0)))
    case atStart =>
      exact ⟨0, Nat.zero_le _, rfl, rfl, (Below.refl _ _).alloc (Nat.le_refl _) _, (World.rowIs_made w1 (.int .u64 0) n 24).congr (fun j _ => by simp)⟩
    case round =>
      obtain ⟨c, hc, rfl, rfl, hB, hrow⟩ := hrel
      clear hmk32
      by_cases hcn : c < n
      · have hcnz : (c : Int) < (n : Int) := by omega
        have q3 := hrow.cell hcn
        have q4 := hrow.frozen c
        go_wp2
        go_roundg (n - (c + 1))
        case measure => go_light; omega
        case rel =>
          go_light
          refine ⟨c + 1, by omega, rfl, by go_num, hB.setCell (Nat.le_refl _) _, (hrow.set c _).congr (fun j _ => ?_)⟩
          by_cases e : j = c
          · subst e; simp
          · rw [if_neg e]
            by_cases hlt : j < c
            · rw [if_pos hlt, if_pos (by omega)]
            · rw [if_neg hlt, if_neg (by omega)]
      · have hcc : n = c := by omega
        subst hcc
        have hrow' : wr.rowIs w1.heap.size 24 n (fun _ => .int .u64 F) := hrow.congr (fun j hj => by simp [hj])
        clear hrow
        have hT2 := hT1.kept (w' := wr) (fun k _ hk => hB.block k hk)
        have ht2 : wr.heap[tb]? = some (.cells #[.slice (some ⟨rb, 0, none⟩) n n, .slice va rs.length cap] 27 (0, 0)) := (hB.block _ ltb1).trans ht1
        have e0 : wr.cell? ⟨tb, 0, none⟩ = some (.slice (some ⟨rb, 0, none⟩) n n) := by rw [World.cell?, ht2]; rfl
        have e1 : wr.cell? ⟨tb, 1, none⟩ = some (.slice va rs.length cap) := by rw [World.cell?, ht2]; rfl
        have ltb2 : tb < wr.heap.size := (Array.getElem?_eq_some_iff.1 ht2).1
        obtain ⟨nr, hnr⟩ : ∃ nr : Rn, nr = ⟨U, F, w1.heap.size, fun _ => F⟩ := ⟨_, rfl⟩
        obtain ⟨W, hW⟩ : ∃ W, wr.alloc (.cells #[.int .i64 U, .int .u64 F, .slice (some ⟨w1.heap.size, 0, none⟩) n n] 34) = W := ⟨_, rfl⟩
        have hsW : W.heap.size = wr.heap.size + 1 := by rw [← hW]; simp
        have hbW : ∀ k, k < wr.heap.size → W.heap[k]? = wr.heap[k]? := fun k hk => by rw [← hW]; exact blk_alloc_lt _ _ _ hk
        have hnew : W.heap[wr.heap.size]? = some (.cells #[.int .i64 U, .int .u64 F, .slice (some ⟨w1.heap.size, 0, none⟩) n n] 34 (0, 0)) := by rw [← hW]; exact blk_alloc_new _ _
        have hT3 := hT2.kept (w' := W) (fun k _ hk => hbW k hk)
        have ht3 : W.heap[tb]? = some (.cells #[.slice (some ⟨rb, 0, none⟩) n n, .slice va rs.length cap] 27 (0, 0)) := (hbW _ ltb2).trans ht2
        have hrowW : W.rowIs w1.heap.size 24 n (fun _ => .int .u64 F) := hrow'.of_block (hbW _ hrow'.lt)
        have hlo : ∀ k, (Value.slice va rs.length cap).ownBlock = some k → k < wr.heap.size := fun k hk => (hT2.own.lt k hk).2
        have HC := insert_any W (.slice va rs.length cap) rs.length i wr.heap.size (rs.flatMap (Rn.cells n)) (.int .i64 U) (.int .u64 F) (.slice (some ⟨w1.heap.size, 0, none⟩) n n) hT3.own hi (by omega) hnew (fun e => by have := hlo _ e; omega) (cells_one n rs) (by simp [Value.oneCell'])
        have hkW : Kept S w W := by
          rw [← hW]
          exact (((Kept.of_below hb).trans (Kept.of_below (S := S) hB) (fun _ _ h => h)).alloc _)
        have HK : Hid (Kept S w W) := hkW
        have HT3 : Hid (Tab W S n (.slice (some ⟨rb, 0, none⟩) n n) (.slice va rs.length cap) rb R X rs) := hT3
        have HR : Hid (W.rowIs w1.heap.size 24 n (fun _ => .int .u64 F)) := hrowW
        clear hrow' hT2 hT3 hkW hrowW hT1 hbW hnew hlo
        go_wp2_with fail
        refine HC.mono ?_
        rintro e w2 ⟨g, cap', rfl, hown, hgrow, hat⟩
        have ht4 : w2.heap[tb]? = some (.cells #[.slice (some ⟨rb, 0, none⟩) n n, .slice va rs.length cap] 27 (0, 0)) := by
          rw [hgrow.block tb (by omega) (fun e => own_ne_block HT3.out.own ht3 (by decide) e.symm)]; exact ht3
        have f1 : w2.cell? ⟨tb, 1, none⟩ = some (.slice va rs.length cap) := by rw [World.cell?, ht4]; rfl
        have f2 : w2.frozen? ⟨tb, 1, none⟩ = false := by simp [World.frozen?, ht4]
        have hsb := hb.size
        have hS3 : Tab W (Up S w) n (.slice (some ⟨rb, 0, none⟩) n n) (.slice va rs.length cap) rb R X rs := HT3.out.mono (fun k h _ => .inl h)
        have HTn : Hid (Tab w2 (Up S w) n (.slice (some ⟨rb, 0, none⟩) n n) (.slice (some ⟨g, 0, none⟩) (rs.length + 1) cap') rb R X (insR rs i nr)) := by
          subst hnr
          refine hS3.insert hi HR.out (.inr hsb) (fun a ha => ?_) (fun x hx => ?_) hown hgrow (fun g' hg' => ?_)
          · have := ((HT.out.tab).row a ha).2.lt
            show R a ≠ w1.heap.size; omega
          · have := ((HT.out.tab).held x hx).2.lt
            show x.blk ≠ w1.heap.size; omega
          · simp only [Value.ownBlock, Option.some.injEq] at hg'
            subst hg'
            rcases hat with h | h
            · exact hS3.sown _ h
            · have := hB.size
              exact .inr (by omega)
        have HK2 : Hid (Kept S w w2) := HK.out.trans (T := S) ⟨hgrow.os, hgrow.tape, hgrow.output, hgrow.size, fun k hk hn => hgrow.block k hk (fun e => hn (HT3.out.sown k e.symm))⟩ (fun _ _ h => h)
        have HT4 : Hid (w2.heap[tb]? = some (.cells #[.slice (some ⟨rb, 0, none⟩) n n, .slice va rs.length cap] 27 (0, 0))) := ht4
        clear hS3 hown hgrow hat HC ht4 ht3 hB hsW HR
        have hiz : (i : Int) < (rs.length : Int) + 1 := by omega
        go_wp2
        go_ret
        have hl := len_ins (r := nr) hi
        refine ⟨g, cap', insR rs i nr, i, nr, rfl, HK2.out.setCell (fun _ => HT.out.stb) _, ⟨?_, .inl HT.out.stb, ?_⟩, ?_⟩
        · rw [hl]; exact block_set _ _ _ _ _ _ HT4.out
        · rw [hl]; exact HTn.out.setFar (a := ⟨tb, 1, none⟩) HT4.out _
        · subst hnr
          refine ⟨by omega, get_ins_at hi, rfl, rfl, sorted_ins HS.out hi HLO.out HHI.out, by omega, .inr ⟨rfl, hi, fun _ _ => rfl⟩⟩

end Go.Proofs.Ybulkbsio
