import Derived.Test.YbulkbsioCLive
namespace Go.Proofs.Ybulkbsio
open Go.RowKit Go.Deep

section
variable {P : Program} (w : World)

theorem run_clear3 (t e ty : TypeId) (z : Value) (ht : P.underlying t = some (.slice e)) (hv : (zeroValue e).run P w = .ok z w) (g o n c : Nat) (cur : Array Value) (hn : 0 < n)
    (hg : w.heap[g]? = some (.cells cur e (0, 0))) (hz : ∀ v ∈ (Builtin.zeroCells z.cells n).toList, v.oneCell' = true) (hfit : o + n * z.cells.size ≤ cur.size) :
    (Builtin.clear_ #[t] ty #[.slice (some ⟨g, o, none⟩) n c]).run P w = .ok (.tuple #[]) (w.setRow g (cur.toList.take o ++ (Builtin.zeroCells z.cells n).toList ++ cur.toList.drop (o + n * z.cells.size)).toArray) := by
  have hl : (Builtin.zeroCells z.cells n).toList.length = n * z.cells.size := by rw [Array.length_toList, size_zeroCells]
  have hst := run_storeCells_at P g o e (Builtin.zeroCells z.cells n).toList 0 cur w hg (by rw [hl]; simpa using hfit) hz
  rw [Nat.add_zero, hl] at hst
  obtain ⟨k, rfl⟩ : ∃ k, n = k + 1 := ⟨n - 1, by omega⟩
  simp [Builtin.clear_, run_underlying ht, hv, hst]
end

theorem zero34_one (n : Nat) : ∀ v ∈ (Builtin.zeroCells (Value.agg #[.int .i64 0, .int .u64 0, .slice none 0 0]).cells n).toList, v.oneCell' = true := by
  intro v hv
  have hc : (Value.agg #[.int .i64 0, .int .u64 0, .slice none 0 0]).cells = #[.int .i64 0, .int .u64 0, .slice none 0 0] := by simp [Value.cells]
  rw [hc] at hv
  simp only [Builtin.zeroCells, Array.mem_toList_iff, Array.mem_map] at hv
  obtain ⟨i, _, rfl⟩ := hv
  have h3 : i % 3 < 3 := Nat.mod_lt _ (by omega)
  generalize i % 3 = q at h3
  have : q = 0 ∨ q = 1 ∨ q = 2 := by omega
  rcases this with rfl | rfl | rfl <;> rfl

theorem flat_put (n : Nat) (C : List Rn) (sp : List Value) (i : Nat) (r : Rn) (hi : i < C.length) : (((C.flatMap (Rn.cells n) ++ sp).set (i * 3) (.int .i64 r.node)).set (i * 3 + 1) (.int .u64 r.frm)).set (i * 3 + 2) (.slice (some ⟨r.blk, 0, none⟩) n n) = (C.set i r).flatMap (Rn.cells n) ++ sp := by
  induction C generalizing i with
  | nil => simp at hi
  | cons x xs ih =>
    cases i with
    | zero => simp [Rn.cells]
    | succ k =>
      have := ih k (by simpa using hi)
      rw [List.set_cons_succ, List.flatMap_cons, List.flatMap_cons, List.append_assoc, List.append_assoc, ← this]
      rw [show (k + 1) * 3 = k * 3 + 1 + 1 + 1 by omega, show k * 3 + 1 + 1 + 1 + 1 = k * 3 + 1 + 1 + 1 + 1 from rfl, show k * 3 + 1 + 1 + 1 + 2 = k * 3 + 2 + 1 + 1 + 1 by omega]
      simp [Rn.cells]

theorem set_block3 (w : World) (g : Nat) (L : List Value) (i : Nat) (a b c : Value) (hg : w.heap[g]? = some (.cells L.toArray 34 (0, 0))) : (((w.setCell ⟨g, i * 3, none⟩ a).setCell ⟨g, i * 3 + 1, none⟩ b).setCell ⟨g, i * 3 + 2, none⟩ c).heap[g]? = some (.cells (((L.set (i * 3) a).set (i * 3 + 1) b).set (i * 3 + 2) c).toArray 34 (0, 0)) := by
  simp [World.setCell, Array.getElem?_modify, hg]

/-- The row while DeleteFunc goes through it: i kept, m looked at. -/
structure Dl (w wr : World) (n gb : Nat) (rs : List Rn) (sp : List Value) (i m : Nat) (C : List Rn) : Prop where
  im : i < m
  len : C.length = rs.length
  got : C.take i = (rs.take m).filter (liveB n)
  rest : ∀ q, m ≤ q → C[q]? = rs[q]?
  blk : wr.heap[gb]? = some (.cells (C.flatMap (Rn.cells n) ++ sp).toArray 34 (0, 0))
  kept : Kept (fun k => k = gb) w wr

theorem Dl.cells {w wr : World} {n gb : Nat} {rs : List Rn} {sp : List Value} {i m : Nat} {C : List Rn} (h : Dl w wr n gb rs sp i m C) {q : Nat} {r : Rn} (hr : C[q]? = some r) : wr.cell? ⟨gb, q * 3, none⟩ = some (.int .i64 r.node) ∧ wr.cell? ⟨gb, q * 3 + 1, none⟩ = some (.int .u64 r.frm) ∧ wr.cell? ⟨gb, q * 3 + 2, none⟩ = some (.slice (some ⟨r.blk, 0, none⟩) n n) := by
  have key : ∀ c, c < 3 → wr.cell? ⟨gb, q * 3 + c, none⟩ = (Rn.cells n r)[c]? := fun c hc => by
    rw [← flat_get n C q c r hr hc, World.cell?, h.blk]
    have hq : q < C.length := (List.getElem?_eq_some_iff.1 hr).1
    simp only [List.getElem?_toArray, Option.isSome_none, Bool.false_eq_true, if_false]
    rw [List.getElem?_append_left (by rw [flat_len]; omega)]
  exact ⟨by simpa [Rn.cells] using key 0 (by omega), by simpa [Rn.cells] using key 1 (by omega), by simpa [Rn.cells] using key 2 (by omega)⟩

theorem Dl.later {w wr w' : World} {n gb : Nat} {rs : List Rn} {sp : List Value} {i m : Nat} {C : List Rn} (h : Dl w wr n gb rs sp i m C) (hb : Below wr.heap.size wr w') : Dl w w' n gb rs sp i m C :=
  ⟨h.im, h.len, h.got, h.rest, (hb.block _ (Array.getElem?_eq_some_iff.1 h.blk).1).trans h.blk, h.kept.trans (Kept.of_below hb) (fun _ _ h => h)⟩

theorem take_filter_succ {n m : Nat} {rs : List Rn} {r : Rn} (hr : rs[m]? = some r) : (rs.take (m + 1)).filter (liveB n) = (rs.take m).filter (liveB n) ++ if liveB n r = true then [r] else [] := by
  obtain ⟨hm, rfl⟩ := List.getElem?_eq_some_iff.1 hr
  rw [List.take_succ_eq_append_getElem hm, List.filter_append]
  congr 1
  cases h : liveB n rs[m] <;> simp [h]

theorem Dl.drop {w wr : World} {n gb : Nat} {rs : List Rn} {sp : List Value} {i m : Nat} {C : List Rn} (h : Dl w wr n gb rs sp i m C) {r : Rn} (hr : rs[m]? = some r) (hd : liveB n r = false) : Dl w wr n gb rs sp i (m + 1) C :=
  ⟨by have := h.im; omega, h.len, by rw [take_filter_succ hr, hd, h.got]; simp, fun q hq => h.rest q (by omega), h.blk, h.kept⟩

theorem Dl.take {w wr : World} {n gb : Nat} {rs : List Rn} {sp : List Value} {i m : Nat} {C : List Rn} (h : Dl w wr n gb rs sp i m C) {r : Rn} (hr : rs[m]? = some r) (hd : liveB n r = true) :
    Dl w (((wr.setCell ⟨gb, i * 3, none⟩ (.int .i64 r.node)).setCell ⟨gb, i * 3 + 1, none⟩ (.int .u64 r.frm)).setCell ⟨gb, i * 3 + 2, none⟩ (.slice (some ⟨r.blk, 0, none⟩) n n)) n gb rs sp (i + 1) (m + 1) (C.set i r) := by
  have him := h.im
  have hm : m < rs.length := (List.getElem?_eq_some_iff.1 hr).1
  have hi : i < C.length := by rw [h.len]; omega
  refine ⟨by omega, by rw [List.length_set]; exact h.len, ?_, fun q hq => ?_, ?_, ?_⟩
  · rw [take_filter_succ hr, if_pos hd, ← h.got, List.take_succ_eq_append_getElem (by rw [List.length_set]; exact hi), List.getElem_set_self]
    congr 1
    rw [List.take_set, List.set_eq_of_length_le (by rw [List.length_take]; omega)]
  · rw [List.getElem?_set_ne (by omega)]
    exact h.rest q (by omega)
  · rw [set_block3 wr gb _ i _ _ _ h.blk, flat_put n C sp i r hi]
  · exact ((h.kept.setCell (p := ⟨gb, i * 3, none⟩) (fun _ => rfl) _).setCell (p := ⟨gb, i * 3 + 1, none⟩) (fun _ => rfl) _).setCell (p := ⟨gb, i * 3 + 2, none⟩) (fun _ => rfl) _

theorem Tab.sub {w w' : World} {S : Nat → Prop} {n gb : Nat} {v0 v1 v1' : Value} {rb : Nat} {R : Nat → Nat} {X : Nat → Nat → Int} {rs rs' : List Rn} (h : Tab w S n v0 v1 rb R X rs) (hv : v1.ownBlock = some gb) (hk : Kept (fun k => k = gb) w w')
    (hsub : rs'.Sublist rs) (hown : w'.ownsRow 0 34 3 v1' rs'.length (rs'.flatMap (Rn.cells n))) (hv' : v1'.ownBlock = some gb) : Tab w' S n v0 v1' rb R X rs' := by
  have hr24 : ∀ b f, w.rowIs b 24 n f → w'.rowIs b 24 n f := fun b f hb => hb.of_block (hk.block b hb.lt (fun e => h.own_ne hb (by rw [hv, e])))
  refine ⟨h.hv0, h.srb, ?_, fun i hi => ⟨(h.row i hi).1, hr24 _ _ (h.row i hi).2⟩, h.inj, hown, fun g hg => ?_, fun x hx => ⟨(h.held x (hsub.subset hx)).1, hr24 _ _ (h.held x (hsub.subset hx)).2⟩, fun a x ha hx => h.apart a x ha (hsub.subset hx), ?_⟩
  · refine h.top.of_block (hk.block _ h.top.lt (fun e => ?_))
    obtain ⟨c, hc, _⟩ := h.top
    exact own_ne_block h.own hc (by decide) (by rw [hv, e])
  · rw [hv'] at hg
    simp only [Option.some.injEq] at hg
    subst hg
    exact h.sown _ hv
  · exact (hsub.map Rn.blk).nodup h.nodup

set_option maxHeartbeats 4000000 in
set_option maxRecDepth 100000 in
theorem del_any (w : World) (S : Nat → Prop) (n : Nat) (rb : Nat) (R : Nat → Nat) (X : Nat → Nat → Int) (rs : List Rn) (v0 v1 : Value) (h6 : n ≤ 6)
    (hT : Tab w S n v0 v1 rb R X rs) (hrl : rs.length ≤ 1000000) :
    Calls Yba.prog 26 #[v1, .func (.func 27) #[] #[]] w fun e w' => ∃ v1', e = .returned v1' ∧ Kept (fun k => v1.ownBlock = some k) w w' ∧ Tab w' S n v0 v1' rb R X (rs.filter (liveB n)) := by
  have HC := index27_any w S n rb R X rs v0 v1 h6 hT hrl
  obtain ⟨va, cap, rfl, hcap, hcm, -⟩ := hT.slice
  have HT : Hid (Tab w S n v0 (.slice va rs.length cap) rb R X rs) := hT
  clear hT
  go_enter Yba.func26, Yba.ntmps26
  go_wp2_with fail
  refine HC.mono ?_
  rintro e w1 ⟨h, hb⟩
  rcases h with ⟨rfl, hall⟩ | ⟨i, x, rfl, hx, hdead, hlive⟩
  · have hf : rs.filter (liveB n) = rs := List.filter_eq_self.2 hall
    have HF : Hid (rs.filter (liveB n) = rs) := hf
    clear hall hf
    go_wp2
    go_ret
    refine ⟨_, rfl, Kept.of_below hb, ?_⟩
    rw [HF.out]
    exact HT.out.kept (fun k _ hk => hb.block k hk)
  · have hil : i < rs.length := (List.getElem?_eq_some_iff.1 hx).1
    have hiz : (i : Int) < (rs.length : Int) := by omega
    have hi1 : ((i : Int) == -1) = false := by simp
    have hi2 : ¬ ((i : Int) = -1) := by omega
    have hown := HT.out.own
    rcases hown.2 with ⟨hv, h0⟩ | ⟨gb, cap', cur, hv, -, hg, hmc, hcm', hsz, htk⟩
    · omega
    · simp only [Value.slice.injEq] at hv
      obtain ⟨rfl, -, rfl⟩ := hv
      obtain ⟨sp, hcur⟩ : ∃ sp, cur = (rs.flatMap (Rn.cells n) ++ sp).toArray := ⟨cur.toList.drop (rs.length * 3), by rw [← htk, List.take_append_drop]⟩
      subst hcur
      have hlg : gb < w.heap.size := (Array.getElem?_eq_some_iff.1 hg).1
      have hsp : sp.length = (cap - rs.length) * 3 := by
        rw [List.size_toArray, List.length_append, flat_len] at hsz
        rw [Nat.sub_mul]; omega
      have hD0 : Dl w w1 n gb rs sp i (i + 1) rs := ⟨by omega, rfl, by rw [take_filter_succ hx, hdead, List.filter_eq_self.2 hlive]; simp, fun _ _ => rfl, (hb.block _ hlg).trans hg, Kept.of_below hb⟩
      have HD0 : Hid (Dl w w1 n gb rs sp i (i + 1) rs) := hD0
      clear hD0 hx hdead hlive hown hg hsz htk HC hb
      go_wp2
      go_loopg [5, 6, 7] (rs.length - (i + 1)) (fun g a b c wr => ∃ i m : Nat, ∃ C, m ≤ rs.length ∧ g = rs.length - m ∧ a = .int .i64 i ∧ b = .int .i64 m ∧ Dl w wr n gb rs sp i m C)
      case atStart => exact ⟨i, i + 1, rs, by omega, rfl, rfl, by go_num, HD0.out⟩
      case round =>
        clear HD0 hi1 hi2 hiz hil
        obtain ⟨i, m, C, hml, rfl, rfl, rfl, hD⟩ := hrel
        have him := hD.im
        by_cases hmr : m < rs.length
        · have hmz : (m : Int) < (rs.length : Int) := by omega
          have hizz : (i : Int) < (rs.length : Int) := by omega
          obtain ⟨r, hr⟩ : ∃ r, rs[m]? = some r := ⟨_, List.getElem?_eq_getElem hmr⟩
          have hCr : C[m]? = some r := (hD.rest m (Nat.le_refl _)).trans hr
          obtain ⟨d0, d1, d2⟩ := hD.cells hCr
          obtain ⟨r', hr'⟩ : ∃ r', C[i]? = some r' := ⟨_, List.getElem?_eq_getElem (by rw [hD.len]; omega)⟩
          obtain ⟨f0, f1, f2⟩ := hD.cells hr'
          have z0 : ∀ o, wr.frozen? ⟨gb, o, none⟩ = false := fun o => by simp [World.frozen?, hD.blk]
          have lgb : gb < wr.heap.size := (Array.getElem?_eq_some_iff.1 hD.blk).1
          have hrow : wr.rowIs r.blk 24 n (fun j => .int .u64 (r.held j)) := by
            have h := (HT.out.held r (List.mem_of_getElem? hr)).2
            exact h.of_block (hD.kept.block _ h.lt (fun e => HT.out.own_ne h (by rw [e]; rfl)))
          have hB1 : Below wr.heap.size wr (wr.alloc (.cells #[.int .i64 r.node, .int .u64 r.frm, .slice (some ⟨r.blk, 0, none⟩) n n] 34)) := (Below.refl _ _).alloc (Nat.le_refl _) _
          have HC := dead_any (wr.alloc (.cells #[.int .i64 r.node, .int .u64 r.frm, .slice (some ⟨r.blk, 0, none⟩) n n] 34)) n r h6 (hrow.of_block (hB1.block _ hrow.lt))
          have HD : Hid (Dl w wr n gb rs sp i m C) := hD
          have HR : Hid (rs[m]? = some r) := hr
          clear hrow hr hCr hr' hD
          cases e1 : liveB n r
          · have HE : Hid (liveB n r = false) := e1
            rw [e1] at HC
            clear e1
            go_wp2_with fail
            refine HC.mono ?_
            rintro e w2 ⟨rfl, hb'⟩
            go_wp2
            go_roundg (rs.length - (m + 1))
            case measure => go_light; omega
            case rel =>
              go_light
              exact ⟨i, m + 1, C, by omega, rfl, rfl, by go_num, (HD.out.drop HR.out HE.out).later (hB1.trans (hb'.mono hB1.size))⟩
          · have HE : Hid (liveB n r = true) := e1
            rw [e1] at HC
            clear e1
            go_wp2_with fail
            refine HC.mono ?_
            rintro e w2 ⟨rfl, hb'⟩
            have hBB : Below wr.heap.size wr w2 := hB1.trans (hb'.mono hB1.size)
            have hD2 := HD.out.later hBB
            obtain ⟨k0, k1, k2⟩ : w2.cell? ⟨wr.heap.size, 0, none⟩ = some (.int .i64 r.node) ∧ w2.cell? ⟨wr.heap.size, 1, none⟩ = some (.int .u64 r.frm) ∧ w2.cell? ⟨wr.heap.size, 2, none⟩ = some (.slice (some ⟨r.blk, 0, none⟩) n n) := by
              have hn : w2.heap[wr.heap.size]? = some (.cells #[.int .i64 r.node, .int .u64 r.frm, .slice (some ⟨r.blk, 0, none⟩) n n] 34 (0, 0)) := by
                rw [hb'.block _ (by simp)]; exact blk_alloc_new _ _
              refine ⟨?_, ?_, ?_⟩ <;> (rw [World.cell?, hn]; rfl)
            have g0 := cell_later hBB lgb f0
            have g1 := cell_later hBB lgb f1
            have g2 := cell_later hBB lgb f2
            have z1 : ∀ o, w2.frozen? ⟨gb, o, none⟩ = false := fun o => by simp [World.frozen?, hD2.blk]
            have HD2 : Hid (Dl w w2 n gb rs sp i m C) := hD2
            clear hD2 f0 f1 f2 d0 d1 d2 z0 HC hB1 hb' hBB
            go_wp2
            go_roundg (rs.length - (m + 1))
            case measure => go_light; omega
            case rel =>
              go_light
              exact ⟨i + 1, m + 1, C.set i r, by omega, rfl, by go_num, by go_num, HD2.out.take HR.out HE.out⟩
        · have hmm : m = rs.length := by omega
          subst hmm
          have hcl : ∀ ty c, (Builtin.clear_ #[25] ty #[.slice (some ⟨gb, i * 3, none⟩) (rs.length - i) c]).run Yba.prog wr = .ok (.tuple #[]) (wr.setRow gb (C.flatMap (Rn.cells n) ++ sp |>.take (i * 3) |> (· ++ (Builtin.zeroCells (Value.agg #[.int .i64 0, .int .u64 0, .slice none 0 0]).cells (rs.length - i)).toList) |> (· ++ (C.flatMap (Rn.cells n) ++ sp).drop (i * 3 + (rs.length - i) * 3))).toArray) := fun ty c => by
            have h3 : (Value.agg #[.int .i64 0, .int .u64 0, .slice none 0 0]).cells.size = 3 := by simp [Value.cells]
            have := run_clear3 (P := Yba.prog) wr 25 34 ty (.agg #[.int .i64 0, .int .u64 0, .slice none 0 0]) Yba.underlying25 (by rfl) gb (i * 3) (rs.length - i) c _ (by omega) hD.blk (zero34_one _) (by rw [h3, List.size_toArray, List.length_append, flat_len, hD.len]; omega)
            rw [h3] at this
            exact this
          obtain ⟨W', hW'⟩ : ∃ W', (wr.setRow gb (C.flatMap (Rn.cells n) ++ sp |>.take (i * 3) |> (· ++ (Builtin.zeroCells (Value.agg #[.int .i64 0, .int .u64 0, .slice none 0 0]).cells (rs.length - i)).toList) |> (· ++ (C.flatMap (Rn.cells n) ++ sp).drop (i * 3 + (rs.length - i) * 3))).toArray) = W' := ⟨_, rfl⟩
          rw [hW'] at hcl
          have hgot := hD.got
          rw [List.take_of_length_le (Nat.le_refl _)] at hgot
          have hli : (rs.filter (liveB n)).length = i := by rw [← hgot, List.length_take, hD.len]; omega
          have hkW : Kept (fun k => k = gb) w W' := by
            rw [← hW']
            exact hD.kept.trans ⟨rfl, rfl, rfl, by simp [World.setRow], fun k hk hn => setRow_other wr gb k _ hn⟩ (fun _ _ h => h)
          have HT' : Hid (Tab W' S n v0 (.slice (some ⟨gb, 0, none⟩) i cap) rb R X (rs.filter (liveB n))) := by
            refine HT.out.sub rfl hkW List.filter_sublist ?_ rfl
            rw [hli, ← hgot, flat_take]
            have e1 : ((C.flatMap (Rn.cells n)).take (i * 3)).length = i * 3 := by rw [List.length_take, flat_len, hD.len]; omega
            refine ⟨e1, .inr ⟨gb, cap, _, rfl, Nat.zero_le _, by rw [← hW']; exact setRow_heap wr gb _ _ _ _ hD.blk, by omega, hcm, ?_, ?_⟩⟩
            · have h3 : (Value.agg #[.int .i64 0, .int .u64 0, .slice none 0 0]).cells.size = 3 := by simp [Value.cells]
              simp only [List.size_toArray, List.length_append, List.length_take, List.length_drop, Array.length_toList, size_zeroCells, h3, flat_len, hD.len, hsp]
              omega
            · rw [List.toList_toArray]
              show List.take (i * 3) (List.take (i * 3) (List.flatMap (Rn.cells n) C ++ sp) ++ _ ++ _) = _
              rw [List.append_assoc, List.take_append_of_le_length (by simp only [List.length_take, List.length_append, flat_len, hD.len]; omega), List.take_take, Nat.min_self, List.take_append_of_le_length (by rw [flat_len, hD.len]; omega)]
          have HK : Hid (Kept (fun k => (Value.slice (some ⟨gb, 0, none⟩) rs.length cap).ownBlock = some k) w W') := hkW.mono (fun k _ e => by subst e; rfl)
          clear hD hW' hkW hgot hli
          go_wp2
          go_ret
          exact ⟨_, rfl, HK.out, HT'.out⟩

end Go.Proofs.Ybulkbsio
