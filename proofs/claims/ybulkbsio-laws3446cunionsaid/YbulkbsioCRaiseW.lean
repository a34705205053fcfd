import Derived.Test.YbulkbsioCRaise
namespace Go.Proofs.Ybulkbsio
open Go.RowKit Go.Deep

set_option maxHeartbeats 8000000 in
set_option maxRecDepth 100000 in
theorem raise_any (w : World) (S So : Nat → Prop) (tb n rb rbo : Nat) (R Ro : Nat → Nat) (X Xo : Nat → Nat → Int) (rs rso : List Rn) (v0 v1 o0 o1 : Value) (k j : Nat) (h6 : n ≤ 6) (hk : k < n) (hj : j < n)
    (hT : TB w S tb n v0 v1 rb R X rs) (hg : Good n rs) (hrl : rs.length + rso.length ≤ 10000) (hSb : ∀ q, S q → q < w.heap.size)
    (hO : Tab w So n o0 o1 rbo Ro Xo rso) (hgo : Good n rso) (hdis : ∀ q, So q → ¬ S q) :
    Calls Yba.prog 11 #[.pointer (some ⟨tb, 0, none⟩), .int .i64 ((k : Int) + 1), .agg #[o0, o1], .int .i64 ((j : Int) + 1)] w fun e w' => e = .returned (.tuple #[]) ∧ Left w w' S tb n v0 rb R X rs rso.length (fun a u t => a = k ∧ HP j u t Xo rso) := by
  obtain ⟨va, cap, rfl, hcap, hcm, -⟩ := hT.tab.slice
  obtain rfl := hT.tab.hv0
  obtain ⟨oa, ocap, rfl, hocap, hocm, -⟩ := hO.slice
  obtain rfl := hO.hv0
  have hkz : (k : Int) < (n : Int) := by omega
  have hjz : (j : Int) < (n : Int) := by omega
  have hkw : IntKind.i64.wrap ((k : Int) + 1 - 1) = (k : Int) := by rw [IntKind.wrap_i64]; omega
  have hjw : IntKind.i64.wrap ((j : Int) + 1 - 1) = (j : Int) := by rw [IntKind.wrap_i64]; omega
  have hkw' : IntKind.i64.wrap (k : Int) = (k : Int) := by rw [IntKind.wrap_i64]; omega
  obtain ⟨W0, hW0⟩ : ∃ W0, w.alloc (.cells #[.slice (some ⟨rbo, 0, none⟩) n n, .slice oa rso.length ocap] 27) = W0 := ⟨_, rfl⟩
  have hB0 : Below w.heap.size w W0 := by rw [← hW0]; exact (Below.refl _ _).alloc (Nat.le_refl _) _
  have hbx : W0.heap[w.heap.size]? = some (.cells #[.slice (some ⟨rbo, 0, none⟩) n n, .slice oa rso.length ocap] 27 (0, 0)) := by rw [← hW0]; exact blk_alloc_new _ _
  have hTW := hT.later hB0
  have hOk : ∀ w', Kept S w w' → Tab w' So n (.slice (some ⟨rbo, 0, none⟩) n n) (.slice oa rso.length ocap) rbo Ro Xo rso := fun w' h => hO.kept (fun q hq hl => h.block q hl (hdis q hq))
  have x0 : W0.cell? ⟨w.heap.size, 0, none⟩ = some (.slice (some ⟨rbo, 0, none⟩) n n) := by rw [World.cell?, hbx]; rfl
  have x1 : W0.cell? ⟨w.heap.size, 1, none⟩ = some (.slice oa rso.length ocap) := by rw [World.cell?, hbx]; rfl
  have b0 : W0.cell? ⟨tb, 0, none⟩ = some (.slice (some ⟨rb, 0, none⟩) n n) := by rw [World.cell?, hTW.tbl]; rfl
  have b1 : W0.cell? ⟨rb, k, none⟩ = some (.slice (some ⟨R k, 0, none⟩) n n) := hTW.tab.top.cell hk
  have hO0 := hOk W0 (Kept.of_below hB0)
  have b2 : W0.cell? ⟨rbo, j, none⟩ = some (.slice (some ⟨Ro j, 0, none⟩) n n) := hO0.top.cell hj
  have HT : Hid (TB w S tb n (.slice (some ⟨rb, 0, none⟩) n n) (.slice va rs.length cap) rb R X rs) := hT
  have HTW : Hid (TB W0 S tb n (.slice (some ⟨rb, 0, none⟩) n n) (.slice va rs.length cap) rb R X rs) := hTW
  have HG : Hid (Good n rs ∧ Good n rso) := ⟨hg, hgo⟩
  have HO : Hid (∀ w', Kept S w w' → Tab w' So n (.slice (some ⟨rbo, 0, none⟩) n n) (.slice oa rso.length ocap) rbo Ro Xo rso) := hOk
  have HBX : Hid (W0.heap[w.heap.size]? = some (.cells #[.slice (some ⟨rbo, 0, none⟩) n n, .slice oa rso.length ocap] 27 (0, 0))) := hbx
  have HK0 : Hid (Kept S w W0) := Kept.of_below hB0
  have lb : w.heap.size < W0.heap.size := (Array.getElem?_eq_some_iff.1 hbx).1
  have hnS : ¬ S w.heap.size := fun h => by have := hSb _ h; omega
  clear hT hTW hg hgo hO hOk hbx hO0 hB0
  go_enter Yba.func11, Yba.ntmps11
  go_wp2_with fail
  go_loopg [30] n (fun g i wr => ∃ m : Nat, m ≤ n ∧ g = n - m ∧ i = .int .i64 m ∧ Kept S w wr ∧ TB wr S tb n (.slice (some ⟨rb, 0, none⟩) n n) (.slice va rs.length cap) rb R (rowX k j m X Xo) rs ∧ wr.heap[w.heap.size]? = some (.cells #[.slice (some ⟨rbo, 0, none⟩) n n, .slice oa rso.length ocap] 27 (0, 0)))
  case atStart => exact ⟨0, Nat.zero_le _, rfl, rfl, HK0.out, ⟨HTW.out.tbl, HTW.out.stb, HTW.out.tab.congrX (fun a b _ _ => by simp [rowX])⟩, HBX.out⟩
  case round =>
    clear HTW HBX HK0 x0 x1 b0 b1 b2 lb
    obtain ⟨m, hm, rfl, rfl, hK, hT1, hbx⟩ := hrel
    by_cases hmn : m < n
    · have hmz : (m : Int) < (n : Int) := by omega
      have hO1 := HO.out wr hK
      have y0 := (hO1.row j hj).2.cell hmn
      have y1 := (hT1.tab.row k hk).2.cell hmn
      rw [show rowX k j m X Xo k m = X k m by simp [rowX]] at y1
      have y2 := (hT1.tab.row k hk).2.frozen m
      have HT1 : Hid (TB wr S tb n (.slice (some ⟨rb, 0, none⟩) n n) (.slice va rs.length cap) rb R (rowX k j m X Xo) rs) := hT1
      have HBX : Hid (wr.heap[w.heap.size]? = some (.cells #[.slice (some ⟨rbo, 0, none⟩) n n, .slice oa rso.length ocap] 27 (0, 0))) := hbx
      have HK : Hid (Kept S w wr) := hK
      clear hO1 hT1 hbx hK
      go_wp2
      all_goals
        go_roundg (n - (m + 1))
        case measure => go_light; omega
        case rel =>
          go_light
          have hne : R k ≠ w.heap.size := fun e => hnS (e ▸ (HT.out.tab.row k hk).1)
          refine ⟨m + 1, by omega, rfl, by go_num, HK.out.setCell (p := ⟨R k, m, none⟩) (fun _ => (HT.out.tab.row k hk).1) _, ⟨(HT1.out.setRow hk m _).tbl, HT1.out.stb, (HT1.out.setRow hk m _).tab.congrX (fun a b _ _ => ?_)⟩, ?_⟩
          · exact rowX_step _ (by omega) a b
          · rw [blk_setCell_other _ _ _ _ hne.symm]; exact HBX.out
    · have hmm : n = m := by omega
      subst hmm
      have z1 : wr.cell? ⟨w.heap.size, 1, none⟩ = some (.slice oa rso.length ocap) := by rw [World.cell?, hbx]; rfl
      have HRA : Hid (Ra w wr S tb n (.slice (some ⟨rb, 0, none⟩) n n) rb R (rowX k j n X Xo) rs k j rso 0 (.slice va rs.length cap) rs) := ⟨hK, hT1.wide, HG.out.1, Nat.le_refl _, fun a u t _ => ⟨.inl, fun h => h.elim id (fun ⟨_, q, _, hq, _⟩ => by omega)⟩⟩
      clear hK hT1 hbx
      go_wp2
      go_loopg [48] rso.length (fun g i wr => ∃ m : Nat, ∃ v1' rs', m ≤ rso.length ∧ g = rso.length - m ∧ i = .int .i64 m ∧ Ra w wr S tb n (.slice (some ⟨rb, 0, none⟩) n n) rb R (rowX k j n X Xo) rs k j rso m v1' rs')
      case atStart => exact ⟨0, _, rs, Nat.zero_le _, rfl, rfl, HRA.out⟩
      case round =>
        clear HRA z1
        obtain ⟨m, v1', rs', hm, rfl, rfl, hA⟩ := hrel
        by_cases hmr : m < rso.length
        · have hmz : (m : Int) < (rso.length : Int) := by omega
          obtain ⟨ro, hro⟩ : ∃ r, rso[m]? = some r := ⟨_, List.getElem?_eq_getElem hmr⟩
          have hO1 := HO.out wr hA.kept
          obtain ⟨g, rfl, -, hgl, d0, d1, d2, -⟩ := hO1.run_at hro
          have hrow := (hO1.held ro (List.mem_of_getElem? hro)).2
          have d3 := hrow.cell hj
          have l3 := hrow.lt
          have HA : Hid (Ra w wr S tb n (.slice (some ⟨rb, 0, none⟩) n n) rb R (rowX k j n X Xo) rs k j rso m v1' rs') := hA
          have HR : Hid (rso[m]? = some ro) := hro
          have hgr := HG.out.2.2 ro (List.mem_of_getElem? hro)
          clear hO1 hrow hro hA
          by_cases hv : ro.frm < ro.held j
          · have hd : decide (ro.frm < ro.held j) = true := by simp [hv]
            have hlen := HA.out.len
            have HRun := run_any (wr.alloc (.cells #[.int .i64 ro.node, .int .u64 ro.frm, .slice (some ⟨ro.blk, 0, none⟩) n n] 34)) (Up S w) tb n rb R _ rs' _ _ ro.node ro.frm h6 (HA.out.alloc _).tb (by omega) HA.out.good.1
            go_wp2_with fail
            refine HRun.mono ?_
            rintro e w3 ⟨g3, cap3, rs3, i3, r3, rfl, hK3, hT3, hR3⟩
            have q2 := run_cell hT3 hR3.2.1
            obtain ⟨q3, q4⟩ := held_cell hT3 hR3.2.1 hk
            have HS : Hid (∀ M, M = max (r3.held k) (ro.held j) → Ra w (w3.drew.setCell ⟨r3.blk, k, none⟩ (.int .u64 M)) S tb n (.slice (some ⟨rb, 0, none⟩) n n) rb R (rowX k j n X Xo) rs k j rso (m + 1) (.slice (some ⟨g3, 0, none⟩) rs3.length cap3) (rs3.set i3 (r3.put k M))) := fun M hM =>
              (HA.out.alloc _).step HR.out hgr hK3 hT3 hR3 M hM rfl rfl rfl rfl
            clear hK3 hT3 hR3 HRun
            go_wp2_with fail
            go_region
            all_goals go_wp2_with fail
            all_goals
              go_roundg (rso.length - (m + 1))
              case measure => go_light; omega
              case rel =>
                go_light
                exact ⟨m + 1, _, _, by omega, rfl, by go_num, HS.out _ (by omega)⟩
          · have hd : decide (ro.frm < ro.held j) = false := by simp; omega
            go_wp2
            go_roundg (rso.length - (m + 1))
            case measure => go_light; omega
            case rel =>
              go_light
              exact ⟨m + 1, v1', rs', by omega, rfl, by go_num, (HA.out.skip HR.out (by omega)).alloc _⟩
        · have hmm : m = rso.length := by omega
          subst hmm
          have hlen := hA.len
          have HC := norm_any wr (Up S w) tb n rb R _ rs' _ _ k h6 hk hA.tb hA.good (by omega)
          have HA : Hid (Ra w wr S tb n (.slice (some ⟨rb, 0, none⟩) n n) rb R (rowX k j n X Xo) rs k j rso rso.length v1' rs') := hA
          clear hA
          go_wp2_with fail
          refine HC.mono ?_
          rintro e w2 ⟨rfl, v2, X2, rs2, hK2, hT2, hg2, hl2, hh2⟩
          have hup : ∀ q, q < w.heap.size → Up S w q → S q := fun q hq h => h.elim id (fun h => by omega)
          have HL : Hid (Left w w2 S tb n (.slice (some ⟨rb, 0, none⟩) n n) rb R X rs rso.length (fun a u t => a = k ∧ HP j u t Xo rso)) := by
            refine ⟨v2, X2, rs2, HA.out.kept.trans hK2 hup, hT2, hg2, by omega, fun a u t ha hu => ?_⟩
            rw [hh2 a u t ha, HA.out.same a u t ha, hold_rows a u t hu]
            constructor
            · rintro ((h | ⟨h1, h2⟩) | ⟨h1, q, r, hq, hr, hx⟩)
              · exact .inl h
              · exact .inr ⟨h1, .inl h2⟩
              · exact .inr ⟨h1, .inr ⟨q, r, hr, hx⟩⟩
            · rintro (h | ⟨h1, h2 | ⟨q, r, hr, hx⟩⟩)
              · exact .inl (.inl h)
              · exact .inl (.inr ⟨h1, h2⟩)
              · exact .inr ⟨h1, q, r, (List.getElem?_eq_some_iff.1 hr).1, hr, hx⟩
          clear hK2 hT2 hg2 hl2 hh2 HC
          go_wp2
          go_end0
          exact ⟨rfl, HL.out⟩

end Go.Proofs.Ybulkbsio
