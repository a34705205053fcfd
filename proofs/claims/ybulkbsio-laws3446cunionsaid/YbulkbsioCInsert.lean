import Derived.Test.YbulkbsioCLaws
namespace Go.Proofs.Ybulkbsio
open Go.RowKit Go.Deep

theorem Yba.size34 : (Yba.prog.info? 34).map (·.size) = some 3 := by kernel_rfl

theorem add_lit0 (b o j : Nat) : (⟨b, o, none⟩ : Addr).add j = ⟨b, o + j, none⟩ := by unfold Addr.add; split <;> simp_all

set_option maxHeartbeats 4000000 in
set_option maxRecDepth 100000 in
/-- slices.Insert: there is room, i < len(s): in place. -/
theorem ins_shift (w : World) (g m cap i nb : Nat) (L sp : List Value) (a b c : Value) (hi : i < m) (hroom : m + 1 ≤ cap) (hcm : cap ≤ maxLen) (hm : m ≤ 1000000) (hL : L.length = m * 3) (hsp : sp.length = (cap - m) * 3)
    (hg : w.heap[g]? = some (.cells (L ++ sp).toArray 34 (0, 0))) (hn : w.heap[nb]? = some (.cells #[a, b, c] 34 (0, 0))) (hne : nb ≠ g) (h1 : ∀ v ∈ L, v.oneCell' = true) (h2 : ∀ v ∈ [a, b, c], v.oneCell' = true) :
    Calls Yba.prog 25 #[.slice (some ⟨g, 0, none⟩) m cap, .int .i64 i, .slice (some ⟨nb, 0, none⟩) 1 1] w fun e w' =>
      e = .returned (.slice (some ⟨g, 0, none⟩) (m + 1) cap) ∧ w' = w.drew.setRow g (L.take (i * 3) ++ [a, b, c] ++ L.drop (i * 3) ++ sp.drop 3).toArray := by
  have hcm' : cap ≤ 9223372036854775807 := by unfold maxLen at hcm; omega
  have hov : ∀ lb cb, (callFunc 35 #[.slice (some ⟨nb, 0, none⟩) 1 1, .slice (some ⟨g, (i + 1) * 3, none⟩) lb cb]).run Yba.prog w = .ok (.value (.bool false)) w := fun lb cb => by
    rw [run_callFunc_extern Yba.func35 (by kernel_rfl) (by kernel_rfl) (by kernel_rfl) (e := Extern.SlicesOverlaps.overlaps #[25, 25] #[4]) (by kernel_rfl),
      Lib.run_overlaps_apart w 25 4 34 Yba.underlying25 3 (fun w => by rfl) ⟨nb, 0, none⟩ ⟨g, (i + 1) * 3, none⟩ 1 1 lb cb hne 34 34 3 (L ++ sp).length (by simp [World.shape?, hn]) (by simp [World.shape?, hg]) (by rw [List.length_append]; omega) (by simp [World.frozen?, hn]) (by simp [World.frozen?, hn])]
    rfl
  have hz2 : ¬ ((i : Int) = (m : Int)) := by omega
  have hd1 : ((i : Int) == (m : Int)) = false := by simpa using hz2
  have hw1 : IntKind.i64.wrap ((i : Int) + 1) = (i : Int) + 1 := by rw [IntKind.wrap_i64]; omega
  have hb1 : (0 : Int) ≤ (i : Int) + 1 := by omega
  have hin : i ≤ m := by omega
  have htn : ((i : Int) + 1).toNat = i + 1 := by omega
  have hb2 : ¬ (cap = i + 1) := by omega
  have hb3 : (i : Int) ≤ (m : Int) + 1 := by omega
  have hb4 : ¬ (cap = i) := by omega
  have hd2 : decide ((cap : Int) < (m : Int) + 1) = false := by simp; omega
  have hcp1 : ∀ ty dc sc, (Builtin.copy_ #[25, 25] ty #[.slice (some ⟨g, (i + 1) * 3, none⟩) (m - i) dc, .slice (some ⟨g, i * 3, none⟩) (m + 1 - i) sc]).run Yba.prog w.drew = .ok (goInt (Nat.min (m + 1 - i) (m - i))) (w.drew.setRow g (((L ++ sp).take ((i + 1) * 3) ++ L.drop (i * 3) ++ (L ++ sp).drop ((i + 1) * 3 + (L.drop (i * 3)).length))).toArray) := fun ty dc sc => by
    refine run_copy3 w.drew _ _ ty 34 g ((i + 1) * 3) (m - i) dc ⟨g, i * 3, none⟩ (m + 1 - i) sc (L ++ sp).toArray 34 (L.drop (i * 3)) Yba.underlying25 Yba.size34 hg ?_ (fun j v hj => ?_) ?_ (fun v hv => h1 v (List.mem_of_mem_drop hv))
    · rw [List.length_drop, hL, show (m + 1 - i).min (m - i) = m - i from Nat.min_eq_right (by omega)]; omega
    · rw [add_lit0]
      show w.cell? _ = _
      rw [List.getElem?_drop] at hj
      rw [World.cell?, hg]
      simp only [List.getElem?_toArray]
      rw [List.getElem?_append_left (List.getElem?_eq_some_iff.1 hj).1]; exact hj
    · simp only [List.size_toArray, List.length_append, List.length_drop]; omega
  have hW1 : ∃ cur : List Value, (L ++ sp).take ((i + 1) * 3) ++ L.drop (i * 3) ++ (L ++ sp).drop ((i + 1) * 3 + (L.drop (i * 3)).length) = cur ∧ cur.length = cap * 3 ∧ cur.take (i * 3) = L.take (i * 3) ∧ cur.drop (i * 3 + 3) = L.drop (i * 3) ++ sp.drop 3 := by
    refine ⟨_, rfl, ?_, ?_, ?_⟩
    · simp only [List.length_append, List.length_take, List.length_drop]; omega
    · rw [List.append_assoc, List.take_append_of_le_length (by simp only [List.length_append, List.length_take]; omega), List.take_take, Nat.min_eq_left (by omega), List.take_append_of_le_length (by omega)]
    · rw [List.append_assoc, List.drop_append, List.drop_eq_nil_of_le (by simp only [List.length_append, List.length_take]; omega), List.nil_append, show i * 3 + 3 - ((L ++ sp).take ((i + 1) * 3)).length = 0 by simp only [List.length_append, List.length_take]; omega, List.drop_zero]
      congr 1
      rw [List.drop_append, List.drop_eq_nil_of_le (by simp only [List.length_drop]; omega), List.nil_append]
      congr 1
      simp only [List.length_drop]; omega
  obtain ⟨cur, hcur, hcl, hct, hcd⟩ := hW1
  rw [hcur] at hcp1
  have hg1 : (w.drew.setRow g cur.toArray).heap[g]? = some (.cells cur.toArray 34 (0, 0)) := setRow_heap w.drew g _ _ _ _ hg
  have hn1 : (w.drew.setRow g cur.toArray).heap[nb]? = some (.cells #[a, b, c] 34 (0, 0)) := by rw [setRow_other _ _ _ _ hne]; exact hn
  have hcp2 : ∀ ty dc, (Builtin.copy_ #[25, 25] ty #[.slice (some ⟨g, i * 3, none⟩) (m + 1 - i) dc, .slice (some ⟨nb, 0, none⟩) 1 1]).run Yba.prog (w.drew.setRow g cur.toArray) = .ok (goInt (Nat.min 1 (m + 1 - i))) (w.drew.setRow g (L.take (i * 3) ++ [a, b, c] ++ L.drop (i * 3) ++ sp.drop 3).toArray) := fun ty dc => by
    have e1 : [a, b, c].length = Nat.min 1 (m + 1 - i) * 3 := by rw [show Nat.min 1 (m + 1 - i) = 1 from Nat.min_eq_left (by omega)]; rfl
    have e2 : ∀ (j : Nat) (v : Value), [a, b, c][j]? = some v → (w.drew.setRow g cur.toArray).cell? ((⟨nb, 0, none⟩ : Addr).add j) = some v := fun j v hj => by
      rw [add_lit0, World.cell?, hn1]
      simpa using hj
    have e3 : i * 3 + [a, b, c].length ≤ cur.toArray.size := by rw [List.size_toArray, hcl, show [a, b, c].length = 3 from rfl]; omega
    rw [run_copy3 (w.drew.setRow g cur.toArray) _ _ ty 34 g (i * 3) (m + 1 - i) dc ⟨nb, 0, none⟩ 1 1 cur.toArray 34 [a, b, c] Yba.underlying25 Yba.size34 hg1 e1 e2 e3 h2]
    rw [setRow_setRow]
    congr 3
    show (List.take (i * 3) cur ++ [a, b, c] ++ List.drop (i * 3 + 3) cur) = _
    rw [hct, hcd, List.append_assoc _ (L.drop (i * 3))]
  go_enter Yba.func25, Yba.ntmps25
  go_wp2_with (simp only [hov])
  go_region_law (refine step_copy_by _ rfl _ _ 25 25 rfl _ _ (by simp [Act.eval, Act.put]) (by simp [Act.eval, Act.put]) (hcp1 _ _ _) ?_)
  go_wp2_with (at_builtin; refine wpList_copy_by _ rfl _ _ 25 25 rfl _ _ rfl rfl (hcp2 _ _) ?_)
  go_ret
  exact ⟨rfl, by simp⟩

theorem Yba.info34' : ∃ i0, Yba.prog.info? 34 = some i0 ∧ i0.zero = some (.agg #[.int .i64 0, .int .u64 0, .slice none 0 0]) ∧ i0.size = 3 ∧ i0.bytes = 40 := by
  have h := Yba.info34
  cases hi : Yba.prog.info? 34 with
  | none => rw [hi] at h; simp at h
  | some i0 =>
    rw [hi] at h
    simp at h
    exact ⟨i0, rfl, h.1, h.2.1, h.2.2⟩

set_option maxHeartbeats 4000000 in
set_option maxRecDepth 100000 in
/-- slices.Insert: no room, i < len(s): a new row. -/
theorem ins_grow (w : World) (g m i nb : Nat) (L : List Value) (a b c : Value) (hi : i < m) (hm : m ≤ 1000000) (hL : L.length = m * 3)
    (hg : w.heap[g]? = some (.cells L.toArray 34 (0, 0))) (hn : w.heap[nb]? = some (.cells #[a, b, c] 34 (0, 0))) (h1 : ∀ v ∈ L, v.oneCell' = true) (h2 : ∀ v ∈ [a, b, c], v.oneCell' = true) :
    Calls Yba.prog 25 #[.slice (some ⟨g, 0, none⟩) m m, .int .i64 i, .slice (some ⟨nb, 0, none⟩) 1 1] w fun e w' =>
      ∃ cap sp, e = .returned (.slice (some ⟨w.heap.size, 0, none⟩) (m + 1) cap) ∧ m + 1 ≤ cap ∧ cap ≤ maxLen ∧ sp.length = (cap - (m + 1)) * 3 ∧ w'.heap[w.heap.size]? = some (.cells (L.take (i * 3) ++ [a, b, c] ++ L.drop (i * 3) ++ sp).toArray 34 (0, 0)) ∧ Below w.heap.size w w' := by
  have lg : g < w.heap.size := (Array.getElem?_eq_some_iff.1 hg).1
  have ln : nb < w.heap.size := (Array.getElem?_eq_some_iff.1 hn).1
  have hap : ∃ (cap : Nat) (W1 : World) (Z : List Value), (∀ ty, (Builtin.append_ #[25, 3] ty #[.slice (some ⟨g, 0, none⟩) i m, .int .i64 ((m : Int) + 1 - i)]).run Yba.prog w = .ok (.slice (some ⟨w.heap.size, 0, none⟩) (m + 1) cap) W1) ∧ m + 1 ≤ cap ∧ cap ≤ maxLen ∧ Z.length = (cap - i) * 3 ∧ W1.heap[w.heap.size]? = some (.cells (L.take (i * 3) ++ Z).toArray 34 (0, 0)) ∧ Below w.heap.size w W1 := by
    obtain ⟨i0, hi0, hz0, hz1, hz2⟩ := Yba.info34'
    have key := fun ty => run_grow_zeros (P := Yba.prog) w 25 3 ty 34 i0 _ 40 Yba.underlying25 Yba.underlying3 hi0 hz0 hz1 hz2 g i m (L.take (i * 3)) (by rw [List.length_take]; omega) (fun j u hj => by
      rw [add_lit0, World.cell?, hg]
      simp only [List.getElem?_toArray, Nat.zero_add]
      rw [List.getElem?_take] at hj
      split at hj
      · exact hj
      · simp at hj) (m + 1 - i) (by omega) (by omega) (by unfold maxLen; omega) (by omega) (by omega)
    have e1 : i + (m + 1 - i) = m + 1 := by omega
    have e2 : ((m + 1 - i : Nat) : Int) = (m : Int) + 1 - i := by omega
    rw [e1, e2] at key
    refine ⟨_, _, (Builtin.zeroCells (Value.agg #[.int .i64 0, .int .u64 0, .slice none 0 0]).cells (m + 1 - i) ++ Builtin.zeroCells (Value.agg #[.int .i64 0, .int .u64 0, .slice none 0 0]).cells (grownCap w (m + 1) m 34 - (m + 1))).toList, key, grownCap_ge _ _ _ _, grownCap_le_maxLen _ _ _ _ (by unfold maxLen; omega), ?_, ?_, ?_⟩
    · have := grownCap_ge w (m + 1) m 34
      have h3 : (Value.agg #[.int .i64 0, .int .u64 0, .slice none 0 0]).cells.size = 3 := by simp [Value.cells]
      simp only [Array.toList_append, List.length_append, Array.length_toList, size_zeroCells, h3]
      omega
    · refine (heap_alloc_new w.drew _).trans ?_
      simp
    · exact (Below.refl _ _).drew.alloc (Nat.le_refl _) _
  obtain ⟨cap, W1, Z, hap, hcap, hcm, hZ, hH, hB⟩ := hap
  obtain ⟨H, hHe⟩ : ∃ H, w.heap.size = H := ⟨_, rfl⟩
  rw [hHe] at hap hH ⊢
  have e0 : (L.take (i * 3)).length = i * 3 := by rw [List.length_take]; omega
  have hcp1 : ∀ ty dc, (Builtin.copy_ #[25, 25] ty #[.slice (some ⟨H, i * 3, none⟩) (m + 1 - i) dc, .slice (some ⟨nb, 0, none⟩) 1 1]).run Yba.prog W1 = .ok (goInt (Nat.min 1 (m + 1 - i))) (W1.setRow H (L.take (i * 3) ++ [a, b, c] ++ Z.drop 3).toArray) := fun ty dc => by
    have hn1 : W1.heap[nb]? = some (.cells #[a, b, c] 34 (0, 0)) := by rw [hB.block _ ln]; exact hn
    have e1 : [a, b, c].length = Nat.min 1 (m + 1 - i) * 3 := by rw [show Nat.min 1 (m + 1 - i) = 1 from Nat.min_eq_left (by omega)]; rfl
    have e2 : ∀ (j : Nat) (v : Value), [a, b, c][j]? = some v → W1.cell? ((⟨nb, 0, none⟩ : Addr).add j) = some v := fun j v hj => by
      rw [add_lit0, World.cell?, hn1]
      simpa using hj
    have e3 : i * 3 + [a, b, c].length ≤ (L.take (i * 3) ++ Z).toArray.size := by rw [List.size_toArray, List.length_append, e0, hZ, show [a, b, c].length = 3 from rfl]; omega
    rw [run_copy3 W1 _ _ ty 34 H (i * 3) (m + 1 - i) dc ⟨nb, 0, none⟩ 1 1 (L.take (i * 3) ++ Z).toArray 34 [a, b, c] Yba.underlying25 Yba.size34 hH e1 e2 e3 h2]
    congr 3
    exact splice_at _ _ _ _ e0
  obtain ⟨W2, hW2⟩ : ∃ W2, W1.setRow H (L.take (i * 3) ++ [a, b, c] ++ Z.drop 3).toArray = W2 := ⟨_, rfl⟩
  have hB2 : Below w.heap.size w W2 := by rw [← hW2]; exact below_setRow hB (by omega) _
  have hH2 : W2.heap[H]? = some (.cells (L.take (i * 3) ++ [a, b, c] ++ Z.drop 3).toArray 34 (0, 0)) := by rw [← hW2]; exact setRow_heap _ _ _ _ _ _ hH
  rw [hW2] at hcp1
  have e4 : (L.drop (i * 3)).length = (m - i) * 3 := by rw [List.length_drop]; omega
  have hcp2 : ∀ ty dc sc, (Builtin.copy_ #[25, 25] ty #[.slice (some ⟨H, (i + 1) * 3, none⟩) (m - i) dc, .slice (some ⟨g, i * 3, none⟩) (m - i) sc]).run Yba.prog W2.drew = .ok (goInt (Nat.min (m - i) (m - i))) (W2.drew.setRow H (L.take (i * 3) ++ [a, b, c] ++ L.drop (i * 3) ++ (Z.drop 3).drop ((m - i) * 3)).toArray) := fun ty dc sc => by
    have hg1 : W2.drew.heap[g]? = some (.cells L.toArray 34 (0, 0)) := by show W2.heap[g]? = _; rw [hB2.block _ lg]; exact hg
    have e5 : (L.take (i * 3) ++ [a, b, c]).length = (i + 1) * 3 := by rw [List.length_append, e0, show [a, b, c].length = 3 from rfl]; omega
    have e1 : (L.drop (i * 3)).length = Nat.min (m - i) (m - i) * 3 := by rw [show Nat.min (m - i) (m - i) = m - i from Nat.min_self _]; exact e4
    have e2 : ∀ (j : Nat) (v : Value), (L.drop (i * 3))[j]? = some v → W2.drew.cell? ((⟨g, i * 3, none⟩ : Addr).add j) = some v := fun j v hj => by
      rw [add_lit0, World.cell?, hg1]
      rw [List.getElem?_drop] at hj
      simpa using hj
    have e3 : (i + 1) * 3 + (L.drop (i * 3)).length ≤ (L.take (i * 3) ++ [a, b, c] ++ Z.drop 3).toArray.size := by rw [List.size_toArray, List.length_append, e5, e4, List.length_drop, hZ]; omega
    rw [run_copy3 W2.drew _ _ ty 34 H ((i + 1) * 3) (m - i) dc ⟨g, i * 3, none⟩ (m - i) sc (L.take (i * 3) ++ [a, b, c] ++ Z.drop 3).toArray 34 (L.drop (i * 3)) Yba.underlying25 Yba.size34 hH2 e1 e2 e3 (fun v hv => h1 v (List.mem_of_mem_drop hv))]
    congr 3
    have := splice_at (L.take (i * 3) ++ [a, b, c]) (Z.drop 3) (L.drop (i * 3)) _ e5
    rw [e4] at this ⊢
    exact this
  obtain ⟨W3, hW3⟩ : ∃ W3, W2.drew.setRow H (L.take (i * 3) ++ [a, b, c] ++ L.drop (i * 3) ++ (Z.drop 3).drop ((m - i) * 3)).toArray = W3 := ⟨_, rfl⟩
  have HB3 : Hid (Below H w W3) := by show Below H w W3; rw [← hW3]; exact below_setRow (hB2.drew.mono (Nat.le_of_eq hHe.symm)) (Nat.le_refl _) _
  have HH3 : Hid (W3.heap[H]? = some (.cells (L.take (i * 3) ++ [a, b, c] ++ L.drop (i * 3) ++ (Z.drop 3).drop ((m - i) * 3)).toArray 34 (0, 0))) := by rw [← hW3]; exact setRow_heap W2.drew _ _ _ _ _ hH2
  rw [hW3] at hcp2
  clear hW3 hW2
  have HZ : Hid (((Z.drop 3).drop ((m - i) * 3)).length = (cap - (m + 1)) * 3) := by show _ = _; rw [List.length_drop, List.length_drop, hZ]; omega
  clear hB hB2 hH hH2 e0 e4 h1 h2
  have hz2 : ¬ ((i : Int) = (m : Int)) := by omega
  have hd1 : ((i : Int) == (m : Int)) = false := by simpa using hz2
  have hw1 : IntKind.i64.wrap ((i : Int) + 1) = (i : Int) + 1 := by rw [IntKind.wrap_i64]; omega
  have hw2 : IntKind.i64.wrap ((m : Int) + 1 - (i : Int)) = (m : Int) + 1 - (i : Int) := by rw [IntKind.wrap_i64]; omega
  have hb1 : (0 : Int) ≤ (i : Int) + 1 := by omega
  have hin : i ≤ m := by omega
  have htn : ((i : Int) + 1).toNat = i + 1 := by omega
  have hb2 : ¬ (cap = i + 1) := by omega
  have hb3 : (i : Int) ≤ (m : Int) + 1 := by omega
  have hb4 : ¬ (cap = i) := by omega
  have hb5 : ¬ (m = i) := by omega
  go_enter Yba.func25, Yba.ntmps25
  go_wp2_with (first | (at_builtin; refine wpList_append_by _ rfl _ _ 25 3 rfl _ _ rfl rfl (hap _) ?_) | (at_builtin; refine wpList_copy_by _ rfl _ _ 25 25 rfl _ _ rfl rfl (hcp1 _ _) ?_) | fail)
  go_region_law (refine step_copy_by _ rfl _ _ 25 25 rfl _ _ (by simp [Act.eval, Act.put]) (by simp [Act.eval, Act.put]) (hcp2 _ _ _) ?_)
  go_wp2
  go_ret
  exact ⟨cap, _, rfl, hcap, hcm, HZ.out, HH3.out, HB3.out⟩

set_option maxHeartbeats 4000000 in
set_option maxRecDepth 100000 in
/-- slices.Insert, one run. -/
theorem insert_any (w : World) (v : Value) (m i nb : Nat) (L : List Value) (a b c : Value) (hown : w.ownsRow 0 34 3 v m L) (hi : i ≤ m) (hm : m ≤ 1000000)
    (hn : w.heap[nb]? = some (.cells #[a, b, c] 34 (0, 0))) (hne : v.ownBlock ≠ some nb) (h1 : ∀ v ∈ L, v.oneCell' = true) (h2 : ∀ v ∈ [a, b, c], v.oneCell' = true) :
    Calls Yba.prog 25 #[v, .int .i64 i, .slice (some ⟨nb, 0, none⟩) 1 1] w fun e w' =>
      ∃ g cap, e = .returned (.slice (some ⟨g, 0, none⟩) (m + 1) cap) ∧ w'.ownsRow 0 34 3 (.slice (some ⟨g, 0, none⟩) (m + 1) cap) (m + 1) (L.take (i * 3) ++ [a, b, c] ++ L.drop (i * 3)) ∧ w.grownBy w' v.ownBlock ∧ (v.ownBlock = some g ∨ w.heap.size ≤ g) := by
  by_cases him : i = m
  · subst him
    obtain ⟨i0, hi0, hz0, hz1, hz2⟩ := Yba.info34'
    have hL := hown.1
    have hnews : ∀ j u, [a, b, c][j]? = some u → w.cell? ((⟨nb, 0, none⟩ : Addr).add j) = some u := fun j u hj => by
      rw [add_lit0, World.cell?, hn]
      simpa using hj
    have ht : L.take (i * 3) ++ [a, b, c] ++ L.drop (i * 3) = L ++ [a, b, c] := by
      rw [List.take_of_length_le (by omega), List.drop_eq_nil_of_le (by omega), List.append_nil]
    rw [ht]
    clear ht
    have hd1 : ((i : Int) == (i : Int)) = true := by simp
    rcases hown.2 with ⟨rfl, rfl⟩ | ⟨g, cap, cur, rfl, -, -, hmc, hcm, -, -⟩
    · go_enter Yba.func25, Yba.ntmps25
      go_wp2_with (at_builtin; refine wpList_append_lies _ rfl _ _ 25 rfl 0 34 i0 _ 3 40 Yba.underlying25 hi0 hz0 hz1 hz2 rfl (by omega) (.slice none 0 0) 0 L rfl hown ⟨nb, 0, none⟩ 1 1 [a, b, c] rfl rfl hnews h2 (by omega) (by unfold maxLen; omega) (by omega) (Nat.zero_le _) _ rfl ?_; intro g cap w1 hown1 hgrow hat hl)
      go_ret
      exact ⟨g, cap, rfl, hown1, hgrow, hat.imp id (fun e => Nat.le_of_eq e.symm)⟩
    · have hcm' : cap ≤ 9223372036854775807 := by unfold maxLen at hcm; omega
      go_enter Yba.func25, Yba.ntmps25
      go_wp2_with (at_builtin; refine wpList_append_lies _ rfl _ _ 25 rfl 0 34 i0 _ 3 40 Yba.underlying25 hi0 hz0 hz1 hz2 rfl (by omega) (.slice (some ⟨g, 0, none⟩) i cap) i L rfl hown ⟨nb, 0, none⟩ 1 1 [a, b, c] rfl rfl hnews h2 (by omega) (by unfold maxLen; omega) (by omega) (Nat.zero_le _) _ rfl ?_; intro g cap w1 hown1 hgrow hat hl)
      all_goals go_ret
      all_goals exact ⟨_, _, rfl, hown1, hgrow, hat.imp id (fun e => Nat.le_of_eq e.symm)⟩
  · have him' : i < m := by omega
    rcases hown.2 with ⟨rfl, rfl⟩ | ⟨g, cap, cur, rfl, -, hg, hmc, hcm, hsz, htk⟩
    · omega
    · have hL := hown.1
      obtain ⟨sp, hcur⟩ : ∃ sp, cur = (L ++ sp).toArray := ⟨cur.toList.drop (m * 3), by rw [← htk, List.take_append_drop]⟩
      subst hcur
      have hsp : sp.length = (cap - m) * 3 := by
        rw [List.size_toArray, List.length_append, hL] at hsz
        rw [Nat.sub_mul]; omega
      have e0 : (L.take (i * 3) ++ [a, b, c] ++ L.drop (i * 3)).length = (m + 1) * 3 := by
        simp only [List.length_append, List.length_take, List.length_drop, List.length_cons, List.length_nil]; omega
      by_cases hroom : m + 1 ≤ cap
      · refine (ins_shift w g m cap i nb L sp a b c him' hroom hcm hm hL hsp hg hn (fun e => hne (by rw [e]; rfl)) h1 h2).mono ?_
        rintro e w' ⟨rfl, rfl⟩
        refine ⟨g, cap, rfl, ⟨e0, .inr ⟨g, cap, _, rfl, Nat.zero_le _, setRow_heap w.drew g _ _ _ _ hg, hroom, hcm, ?_, ?_⟩⟩, ?_, .inl rfl⟩
        · rw [List.size_toArray, List.length_append, e0, List.length_drop]; omega
        · rw [← e0, List.toList_toArray, List.take_left]
        · exact ⟨rfl, rfl, rfl, by simp [World.setRow], fun k _ hk => by rw [setRow_other w.drew g k _ (fun e => hk (by simp [Value.ownBlock, e]))]; rfl⟩
      · obtain rfl : cap = m := by omega
        have : sp = [] := List.eq_nil_of_length_eq_zero (by omega)
        subst this
        rw [List.append_nil] at hg
        refine (ins_grow w g cap i nb L a b c him' hm hL hg hn h1 h2).mono ?_
        rintro e w' ⟨cap', sp', rfl, hc1, hc2, hl, hh, hb⟩
        refine ⟨w.heap.size, cap', rfl, ⟨e0, .inr ⟨w.heap.size, cap', _, rfl, Nat.zero_le _, hh, hc1, hc2, ?_, ?_⟩⟩, ?_, .inr (Nat.le_refl _)⟩
        · rw [List.size_toArray, List.length_append, e0, hl]; omega
        · rw [← e0, List.toList_toArray, List.take_left]
        · exact ⟨hb.os, hb.tape, hb.output, hb.size, fun k hk _ => hb.block k hk⟩

end Go.Proofs.Ybulkbsio
