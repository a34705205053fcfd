import Derived.Test.YbulkbsioCNorm
namespace Go.Proofs.Ybulkbsio
open Go.RowKit Go.Deep

set_option maxHeartbeats 4000000 in
set_option maxRecDepth 100000 in
theorem norm_any (w : World) (S : Nat → Prop) (tb n rb : Nat) (R : Nat → Nat) (X : Nat → Nat → Int) (rs : List Rn) (v0 v1 : Value) (k : Nat) (h6 : n ≤ 6) (hk : k < n)
    (hT : TB w S tb n v0 v1 rb R X rs) (hg : Good n rs) (hrl : rs.length ≤ 100000) :
    Calls Yba.prog 20 #[.pointer (some ⟨tb, 0, none⟩), .int .i64 ((k : Int) + 1)] w fun e w' => e = .returned (.tuple #[]) ∧ ∃ v1' X' rs', Kept S w w' ∧ TB w' S tb n v0 v1' rb R X' rs' ∧ Good n rs' ∧ rs'.length ≤ rs.length ∧ ∀ a u t, a < n → (HP a u t X' rs' ↔ HP a u t X rs) := by
  obtain ⟨va, cap, rfl, hcap, hcm, -⟩ := hT.tab.slice
  obtain rfl := hT.tab.hv0
  have HN0 : Hid (Nm w w S tb n (.slice (some ⟨rb, 0, none⟩) n n) (.slice va rs.length cap) rb R X rs X rs) := ⟨Kept.refl _ _, hT, hg, rfl, fun _ _ _ => Iff.rfl⟩
  clear hT hg
  have hkz : (k : Int) < (n : Int) := by omega
  have hkw : IntKind.i64.wrap ((k : Int) + 1 - 1) = (k : Int) := by rw [IntKind.wrap_i64]; omega
  go_enter Yba.func20, Yba.ntmps20
  go_wp2_with fail
  go_loopg [4] rs.length (fun g i wr => ∃ m : Nat, ∃ X' rs', m ≤ rs.length ∧ g = rs.length - m ∧ i = .int .i64 m ∧ Nm w wr S tb n (.slice (some ⟨rb, 0, none⟩) n n) (.slice va rs.length cap) rb R X rs X' rs')
  case atStart => exact ⟨0, X, rs, Nat.zero_le _, rfl, rfl, HN0.out⟩
  case round =>
    clear HN0
    obtain ⟨i0, X1, rs1, hi0, rfl, rfl, hN⟩ := hrel
    have c0 : wr.cell? ⟨tb, 0, none⟩ = some (.slice (some ⟨rb, 0, none⟩) n n) := by rw [World.cell?, hN.tb.tbl]; rfl
    have c1 : wr.cell? ⟨tb, 1, none⟩ = some (.slice va rs.length cap) := by rw [World.cell?, hN.tb.tbl]; rfl
    have ltb : tb < wr.heap.size := (Array.getElem?_eq_some_iff.1 hN.tb.tbl).1
    by_cases hir : i0 < rs.length
    · have hiz : (i0 : Int) < (rs.length : Int) := by omega
      obtain ⟨r0, hr0⟩ : ∃ r, rs1[i0]? = some r := ⟨_, List.getElem?_eq_getElem (by rw [hN.len]; exact hir)⟩
      have hn0 := hN.good.2 r0 (List.mem_of_getElem? hr0)
      have hT' := hN.tb.tab
      obtain ⟨g, hva, -, hgl, d0, d1, d2, -⟩ := hT'.run_at hr0
      subst hva
      obtain ⟨u, hu⟩ : ∃ u : Nat, r0.node = (u : Int) + 1 := ⟨(r0.node - 1).toNat, by omega⟩
      rw [hu] at d0
      have hun : u < n := by omega
      have huz : (u : Int) < (n : Int) := by omega
      have huw : IntKind.i64.wrap ((u : Int) + 1 - 1) = (u : Int) := by rw [IntKind.wrap_i64]; omega
      have c2 : wr.cell? ⟨rb, k, none⟩ = some (.slice (some ⟨R k, 0, none⟩) n n) := hT'.top.cell hk
      have hrb : rb < wr.heap.size := hT'.top.lt
      have HN : Hid (Nm w wr S tb n (.slice (some ⟨rb, 0, none⟩) n n) (.slice (some ⟨g, 0, none⟩) rs.length cap) rb R X rs X1 rs1) := hN
      have HR0 : Hid (rs1[i0]? = some r0 ∧ r0.node = (u : Int) + 1) := ⟨hr0, hu⟩
      clear hN hT' hr0 hu hn0
      go_wp2_with fail
      go_loopg [4, 6] (rs.length - i0) (fun g' i e wr => ∃ m : Nat, ∃ X' rs' eb eo ev, m ≤ rs.length ∧ g' = rs.length - m ∧ i = .int .i64 m ∧ e = .pointer (some ⟨eb, eo, none⟩) ∧ Nm w wr S tb n (.slice (some ⟨rb, 0, none⟩) n n) (.slice (some ⟨g, 0, none⟩) rs.length cap) rb R X rs X' rs' ∧ EndAt n k R X' rs' m ((u : Int) + 1) eb eo ev ∧ (i0 < m ∨ (m = i0 ∧ ∃ r, rs'[i0]? = some r ∧ r.node = (u : Int) + 1)))
      case atStart => exact ⟨i0, X1, rs1, R k, u, X1 k u, hi0, rfl, rfl, by first | rfl | simp, HN.out, .inl ⟨u, hun, rfl, rfl, rfl, rfl⟩, .inr ⟨rfl, r0, HR0.out⟩⟩
      case round =>
        clear HN HR0 c0 c1 c2 d0 d1 d2
        obtain ⟨i, X2, rs2, eb, eo, ev, hil, rfl, rfl, rfl, hN, hE, hpos⟩ := hrel
        have c0 : wr.cell? ⟨tb, 0, none⟩ = some (.slice (some ⟨rb, 0, none⟩) n n) := by rw [World.cell?, hN.tb.tbl]; rfl
        have c1 : wr.cell? ⟨tb, 1, none⟩ = some (.slice (some ⟨g, 0, none⟩) rs.length cap) := by rw [World.cell?, hN.tb.tbl]; rfl
        have ltb : tb < wr.heap.size := (Array.getElem?_eq_some_iff.1 hN.tb.tbl).1
        by_cases hir2 : i < rs.length
        · have hiz2 : (i : Int) < (rs.length : Int) := by omega
          obtain ⟨r, hr⟩ : ∃ r, rs2[i]? = some r := ⟨_, List.getElem?_eq_getElem (by rw [hN.len]; exact hir2)⟩
          obtain ⟨g', hva, -, hgl, d0, d1, d2, -⟩ := hN.tb.tab.run_at hr
          simp only [Option.some.injEq, Addr.mk.injEq, and_true] at hva
          subst hva
          by_cases hnu : r.node = (u : Int) + 1
          · rw [hnu] at d0
            obtain ⟨e0, ez, eown, etb, elt⟩ := hE.cell hN hk
            have ene := hE.ne hN hk hr
            have hrow := (hN.tb.tab.held r (List.mem_of_getElem? hr)).2
            have h0 := hrow.cell hk
            have hz := hrow.frozen k
            have hlt := hrow.lt
            have eg : ¬ eb = g := fun e => eown (by rw [e]; rfl)
            have rg : ¬ r.blk = g := fun e => hN.tb.tab.own_ne hrow (by rw [e]; rfl)
            have HN : Hid (Nm w wr S tb n (.slice (some ⟨rb, 0, none⟩) n n) (.slice (some ⟨g, 0, none⟩) rs.length cap) rb R X rs X2 rs2) := hN
            have HE : Hid (EndAt n k R X2 rs2 i ((u : Int) + 1) eb eo ev) := hE
            have HR : Hid (rs2[i]? = some r ∧ r.node = (u : Int) + 1) := ⟨hr, hnu⟩
            have hpos' : i0 ≤ i := by rcases hpos with h | h <;> omega
            clear hN hE hr hnu hrow hpos eown
            have ez0 := ez eo
            by_cases hle : r.frm ≤ ev
            · have hd : decide (r.frm ≤ ev) = true := by simp [hle]
              go_wp2_with fail
              go_quiet (fail)
              go_wp2_with fail
              go_region
              all_goals go_wp2_with fail
              all_goals
                go_roundg (rs.length - (i + 1))
                case measure => go_light; omega
                case rel =>
                  go_light
                  first
                    | (obtain ⟨X3, rs3, hN3, hE3⟩ := (HN.out.drew (wr' := wr.drewN (nq + 1)) rfl rfl rfl rfl).absorb hk HE.out HR.out.1 HR.out.2 hle ev (by omega)
                       exact ⟨i + 1, X3, rs3, eb, eo, _, by omega, rfl, by go_num, rfl, hN3, hE3, .inl (by omega)⟩)
                    | (obtain ⟨X3, rs3, hN3, hE3⟩ := (HN.out.drew (wr' := wr.drewN (nq + 1)) rfl rfl rfl rfl).absorb hk HE.out HR.out.1 HR.out.2 hle (r.held k) (by omega)
                       exact ⟨i + 1, X3, rs3, eb, eo, _, by omega, rfl, by go_num, rfl, hN3, hE3, .inl (by omega)⟩)
            · have hd : decide (r.frm ≤ ev) = false := by simp; omega
              go_wp2_with fail
              go_quiet (fail)
              go_wp2_with fail
              go_roundg (rs.length - (i + 1))
              case measure => go_light; omega
              case rel =>
                go_light
                exact ⟨i + 1, X2, rs2, r.blk, k, _, by omega, rfl, by go_num, rfl, HN.out.drew rfl rfl rfl rfl, EndAt.next HR.out.1 HR.out.2, .inl (by omega)⟩
          · have hpos' : i0 < i := by
              rcases hpos with h | ⟨rfl, x, hx, hxn⟩
              · exact h
              · rw [hr] at hx
                simp only [Option.some.injEq] at hx
                subst hx
                exact absurd hxn hnu
            have hd : (r.node == (u : Int) + 1) = false := by simp [hnu]
            have HN : Hid (Nm w wr S tb n (.slice (some ⟨rb, 0, none⟩) n n) (.slice (some ⟨g, 0, none⟩) rs.length cap) rb R X rs X2 rs2) := hN
            clear hN hE hr hpos
            go_wp2_with fail
            go_roundg (rs.length - i)
            case measure => go_light; omega
            case rel =>
              go_light
              exact ⟨i, X2, rs2, by omega, rfl, rfl, HN.out⟩
        · have hd : decide ((i : Int) < (rs.length : Int)) = false := by simp; omega
          have HN : Hid (Nm w wr S tb n (.slice (some ⟨rb, 0, none⟩) n n) (.slice (some ⟨g, 0, none⟩) rs.length cap) rb R X rs X2 rs2) := hN
          clear hN hE hpos
          go_wp2_with fail
          go_roundg (rs.length - i)
          case measure => go_light; omega
          case rel =>
            go_light
            exact ⟨i, X2, rs2, by omega, rfl, rfl, HN.out⟩
    · have hd : decide ((i0 : Int) < (rs.length : Int)) = false := by simp; omega
      have HC := del_any wr S n rb R X1 rs1 _ _ h6 hN.tb.tab (by rw [hN.len]; omega)
      have HN : Hid (Nm w wr S tb n (.slice (some ⟨rb, 0, none⟩) n n) (.slice va rs.length cap) rb R X rs X1 rs1) := hN
      clear hN
      go_wp2_with fail
      refine HC.mono ?_
      rintro e w2 ⟨v2, rfl, hK, hT2⟩
      have lt0 : tb < wr.heap.size := (Array.getElem?_eq_some_iff.1 HN.out.tb.tbl).1
      have ht2 : w2.heap[tb]? = some (.cells #[.slice (some ⟨rb, 0, none⟩) n n, .slice va rs.length cap] 27 (0, 0)) := by
        rw [hK.block tb lt0 (own_ne_block HN.out.tb.tab.own HN.out.tb.tbl (by decide))]; exact HN.out.tb.tbl
      have f1 : w2.cell? ⟨tb, 1, none⟩ = some (.slice va rs.length cap) := by rw [World.cell?, ht2]; rfl
      have f2 : w2.frozen? ⟨tb, 1, none⟩ = false := by simp [World.frozen?, ht2]
      have HK : Hid (Kept S w w2) := HN.out.kept.trans (T := S) (hK.mono (fun k _ h => HN.out.tb.tab.sown k h)) (fun _ _ h => h)
      have HT2 : Hid (Tab w2 S n (.slice (some ⟨rb, 0, none⟩) n n) v2 rb R X1 (rs1.filter (liveB n)) ∧ w2.heap[tb]? = some (.cells #[.slice (some ⟨rb, 0, none⟩) n n, .slice va rs.length cap] 27 (0, 0))) := ⟨hT2, ht2⟩
      obtain ⟨va2, cap2, rfl, -⟩ := hT2.slice
      clear HC hK hT2 ht2
      go_wp2
      go_end0
      refine ⟨rfl, _, X1, rs1.filter (liveB n), HK.out.setCell (fun _ => HN.out.tb.stb) _, ⟨block_set _ _ _ _ _ _ HT2.out.2, HN.out.tb.stb, HT2.out.1.setFar (a := ⟨tb, 1, none⟩) HT2.out.2 _⟩, good_sub HN.out.good List.filter_sublist, ?_, fun a u t ha => ?_⟩
      · have := List.length_filter_le (liveB n) rs1
        have := HN.out.len
        omega
      · rw [hold_filter a u t ha]
        exact HN.out.same a u t

end Go.Proofs.Ybulkbsio
