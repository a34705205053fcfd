import Derived.Test.YbulkbsioCBld
namespace Go.Proofs.Ybulkbsio
open Go.RowKit Go.Deep

set_option maxHeartbeats 8000000 in
set_option maxRecDepth 100000 in
theorem cbuild_any (w : World) (n : Nat) (h1 : 1 ≤ n) (h4 : n ≤ 4) (oa : Option Addr) (ol oc ab ao mb : Nat) (A0 A1 A2 A3 : Nat → Int) (hO : COps w oa ol ab ao A0 A1 A2 A3) (hol : ol ≤ 256) (hM : w.rowIs mb 41 224 (fun _ => .bool false)) (hab : 0 < ol → ab ≠ mb) :
    Calls Yba.prog 10 #[.int .i64 n, .slice oa ol oc, .pointer (some ⟨mb, 0, none⟩)] w fun e w' => ∃ v1 rb R X rs M, e = .returned (.agg #[.slice (some ⟨rb, 0, none⟩) n n, v1]) ∧ Kept (fun k => k = mb) w w' ∧ Tab w' (fun k => w.heap.size < k ∧ k < w'.heap.size) n (.slice (some ⟨rb, 0, none⟩) n n) v1 rb R X rs ∧ Good n rs ∧ rs.length ≤ ol ∧ w'.rowIs mb 41 224 (fun q => .bool (M q)) ∧ Agree n M X rs := by
  have hmb : mb < w.heap.size := hM.lt
  have hNT := newTable_any n h1 (by omega) (w.alloc (.cells #[.slice none 0 0, .slice none 0 0] 27))
  go_enter Yba.func10, Yba.ntmps10
  go_wp2_with fail
  refine hNT.mono ?_
  rintro e w1 ⟨rfl, hb1, hs1, hT1⟩
  clear hNT
  have hB1 : Below w.heap.size w w1 := ((Below.refl _ _).alloc (Nat.le_refl _) _).trans (hb1.mono (by simp))
  have hres : w1.heap[w.heap.size]? = some (.cells #[.slice none 0 0, .slice none 0 0] 27 (0, 0)) := (hb1.block _ (by simp)).trans (blk_alloc_new _ _)
  rw [nblk_alloc] at hs1 hT1
  obtain ⟨rb, hrb⟩ : ∃ rb, w.heap.size + 1 + 1 = rb := ⟨_, rfl⟩
  have HC0 : Hid (Cb w (w1.alloc (.cells #[.slice (some ⟨rb, 0, none⟩) n n, .slice none 0 0] 27)) mb w1.heap.size n (.slice none 0 0) rb (fun i => w.heap.size + 1 + 2 + i) (fun _ _ => 0) [] (fun _ => false) 0) := by
    rw [hrb] at hT1
    have hb2 : Below w1.heap.size w1 (w1.alloc (.cells #[.slice (some ⟨rb, 0, none⟩) n n, .slice none 0 0] 27)) := (Below.refl _ _).alloc (Nat.le_refl _) _
    refine ⟨Kept.of_below (hB1.trans (hb2.mono hB1.size)), ⟨blk_alloc_new _ _, ⟨by omega, by simp⟩, ?_⟩, ⟨fun i j x y _ hx => by simp at hx, fun r hr => by simp at hr⟩, Nat.le_refl _, ?_, ?_⟩
    · exact (hT1.kept (fun k _ hk => hb2.block k hk)).mono (fun k hk hlt => ⟨by omega, hlt⟩)
    · rw [hb2.block _ (by omega)]; exact hres
    · exact hM.of_block ((hb2.block _ (by omega)).trans (hB1.block _ hmb))
  have HA0 : Hid (Agree n (fun _ => false) (fun _ _ => 0) []) := by
    intro a u t _ _ h1 _
    simp [HP]
    omega
  obtain ⟨tb, htb⟩ : ∃ tb, w1.heap.size = tb := ⟨_, rfl⟩
  rw [htb] at HC0
  have HO : Hid (COps w oa ol ab ao A0 A1 A2 A3) := hO
  have HM : Hid (w.rowIs mb 41 224 (fun _ => .bool false)) := hM
  clear hB1 hb1 hs1 hT1 hres hO hM
  go_wp2_with fail
  go_loopg [19] ol (fun g i wr => ∃ m : Nat, ∃ v1 R X rs M, m ≤ ol ∧ g = ol - m ∧ i = .int .i64 m ∧ Cb w wr mb tb n v1 rb R X rs M m ∧ Agree n M X rs)
  case atStart => exact ⟨0, _, _, _, _, _, Nat.zero_le _, rfl, rfl, HC0.out, HA0.out⟩
  case round =>
    clear HC0 HA0
    obtain ⟨m, v1, R, X, rs, M, hm, rfl, rfl, hC, hA⟩ := hrel
    by_cases hmo : m < ol
    · have hmz : (m : Int) < (ol : Int) := by omega
      have hadr := HO.out.adr (by omega)
      subst hadr
      have hne := hab (by omega)
      have hcel : ∀ o v, w.cell? ⟨ab, o, none⟩ = some v → wr.cell? ⟨ab, o, none⟩ = some v := fun o v h => by
        have hlt : ab < w.heap.size := by
          by_cases hx : ab < w.heap.size
          · exact hx
          · rw [World.cell?, Array.getElem?_eq_none (by simpa using hx)] at h; simp at h
        rw [World.cell?_of_block (hC.kept.block ab hlt hne)]; exact h
      have a0 := hcel _ _ (HO.out.c0 m hmo)
      have a1 := hcel _ _ (HO.out.c1 m hmo)
      have a2 := hcel _ _ (HO.out.c2 m hmo)
      have a3 := hcel _ _ (HO.out.c3 m hmo)
      obtain ⟨p0, p1, p2, p3⟩ := HO.out.bd m hmo
      generalize A0 m = q0 at a0 p0
      generalize A1 m = q1 at a1 p1
      generalize A2 m = q2 at a2 p2
      generalize A3 m = q3 at a3 p3
      have HC : Hid (Cb w wr mb tb n v1 rb R X rs M m) := hC
      have HA : Hid (Agree n M X rs) := hA
      clear hC hA hcel
      obtain ⟨k, hk1, hkn⟩ := rem_nat (z := q1) h1
      obtain ⟨u, hu1, hun⟩ := rem_nat (z := q2) h1
      obtain ⟨-, -, hk4, hkz⟩ := small_facts hkn h4
      obtain ⟨-, -, hu4, huz⟩ := small_facts hun h4
      have hn0 : ¬ (n : Int) = 0 := by omega
      have hlen := HC.out.len
      have hSb : ∀ j, (fun k => w.heap.size < k ∧ k < (wr.alloc (.cells #[.int .u8 q0, .int .u8 q1, .int .u8 q2, .int .u8 q3] 58)).heap.size) j → j < (wr.alloc (.cells #[.int .u8 q0, .int .u8 q1, .int .u8 q2, .int .u8 q3] 58)).heap.size := fun j h => h.2
      by_cases hop : q0 % 2 = 0
      · have hd : (q0 % 2 == 0) = true := by simp [hop]
        obtain ⟨v, hv1⟩ : ∃ v : Nat, 1 + q3 % 12 = (v : Int) := ⟨(1 + q3 % 12).toNat, by omega⟩
        have hv12 : 1 ≤ v ∧ v ≤ 12 := by omega
        have hv14 : (v : Int) < 14 := by omega
        have HAdd := add_any (wr.alloc (.cells #[.int .u8 q0, .int .u8 q1, .int .u8 q2, .int .u8 q3] 58)) _ tb n rb R X rs _ _ k u v (by omega) hkn hun (by omega) (by omega) (HC.out.alloc _).tbl HC.out.good (by omega) hSb
        rw [Int.add_comm (k : Int) 1, Int.add_comm (u : Int) 1] at HAdd
        clear hSb
        go_wp2_with fail
        refine HAdd.mono ?_
        rintro e w2 ⟨rfl, hL⟩
        obtain ⟨v2, X2, rs2, hC2, hh⟩ := (HC.out.alloc _).left hmb hL (Nat.le_refl _)
        have m1 := hC2.mod.cell (idx_lt h4 hkn hun (show v ≤ 13 by omega))
        have m2 := hC2.mod.frozen (k * 56 + u * 14 + v)
        have HC2 : Hid (Cb w w2 mb tb n v2 rb R X2 rs2 M (m + 1)) := hC2
        have HA2 := agree_add h4 HA.out hkn hun (show v ≤ 13 by omega) hh
        clear hC2 hL hh HAdd a0 a1 a2 a3
        go_wp2_with fail
        go_roundg (ol - (m + 1))
        case measure => go_light; omega
        case rel =>
          go_light
          exact ⟨m + 1, v2, R, X2, rs2, _, by omega, rfl, by go_num, HC2.out.put hmb _, HA2⟩
      · have hd : (q0 % 2 == 0) = false := by simp; omega
        obtain ⟨v, hv1⟩ : ∃ v : Nat, q3 % 13 = (v : Int) := ⟨(q3 % 13).toNat, by omega⟩
        have hv12 : v ≤ 12 := by omega
        have HExt := extend_any (wr.alloc (.cells #[.int .u8 q0, .int .u8 q1, .int .u8 q2, .int .u8 q3] 58)) _ tb n rb R X rs _ _ k u v (by omega) hkn hun (HC.out.alloc _).tbl HC.out.good (by omega)
        rw [Int.add_comm (k : Int) 1, Int.add_comm (u : Int) 1] at HExt
        clear hSb
        go_wp2_with fail
        refine HExt.mono ?_
        rintro e w2 ⟨rfl, hL⟩
        obtain ⟨v2, X2, rs2, hC2, hh⟩ := (HC.out.alloc _).left hmb hL (by omega)
        have HC2 : Hid (Cb w w2 mb tb n v2 rb R X2 rs2 M (m + 1)) := hC2
        have HH : Hid (∀ a u' t, a < n → u' < n → (HP a u' t X2 rs2 ↔ (HP a u' t X rs ∨ (a = k ∧ u' = u ∧ t ≤ (v : Int))))) := hh
        clear hC2 hL hh HExt a0 a1 a2 a3
        go_wp2_with fail
        go_loopg [14] v (fun g i wr => ∃ x : Nat, ∃ M', 1 ≤ x ∧ x ≤ v + 1 ∧ g = v + 1 - x ∧ i = .int .u64 x ∧ Cb w wr mb tb n v2 rb R X2 rs2 M' (m + 1) ∧ AgreeX n M' X rs k u x)
        case atStart => 
          refine ⟨1, M, by omega, by omega, by omega, rfl, HC2.out, fun a u' t ha hu' h1 h13 => ?_⟩
          rw [HA.out a u' t ha hu' h1 h13]
          exact ⟨.inl, fun h => h.elim id (fun h => by omega)⟩
        case round =>
          clear HC2 HC HA
          obtain ⟨x, M', hx1, hxv, rfl, rfl, hC, hX⟩ := hrel
          by_cases hx : x ≤ v
          · have hxz : (x : Int) ≤ (v : Int) := by omega
            have hx14 : (x : Int) < 14 := by omega
            have hxd : decide ((x : Int) ≤ (v : Int)) = true := by simp; omega
            have m1 := hC.mod.cell (idx_lt h4 hkn hun (show x ≤ 13 by omega))
            have m2 := hC.mod.frozen (k * 56 + u * 14 + x)
            have HC3 : Hid (Cb w wr mb tb n v2 rb R X2 rs2 M' (m + 1)) := hC
            have HX : Hid (AgreeX n M' X rs k u x) := hX
            clear hC hX
            go_wp2_with fail
            go_roundg (v + 1 - (x + 1))
            case measure => go_light; omega
            case rel =>
              go_light
              exact ⟨x + 1, _, by omega, by omega, rfl, by go_num, HC3.out.put hmb _, agreeX_step h4 hkn hun (by omega) HX.out⟩
          · have hxd : decide ((x : Int) ≤ (v : Int)) = false := by simp; omega
            have hxe : x = v + 1 := by omega
            have HA3 : Hid (Agree n M' X2 rs2) := fun a u' t ha hu' h1 h13 => by
              rw [hX a u' t ha hu' h1 h13, HH.out a u' t ha hu']
              constructor
              · rintro (h | ⟨h1, h2, h3⟩)
                · exact .inl h
                · exact .inr ⟨h1, h2, by omega⟩
              · rintro (h | ⟨h1, h2, h3⟩)
                · exact .inl h
                · exact .inr ⟨h1, h2, by omega⟩
            have HC3 : Hid (Cb w wr mb tb n v2 rb R X2 rs2 M' (m + 1)) := hC
            clear hC hX
            go_wp2_with fail
            go_roundg (ol - (m + 1))
            case measure => go_light; omega
            case rel =>
              go_light
              exact ⟨m + 1, v2, R, X2, rs2, _, by omega, rfl, by go_num, HC3.out, HA3.out⟩
    · obtain ⟨va, cap, hv1, -⟩ := hC.tbl.tab.slice
      subst hv1
      have hlen := hC.len
      have s0 : wr.cell? ⟨tb, 0, none⟩ = some (.slice (some ⟨rb, 0, none⟩) n n) := by rw [World.cell?, hC.tbl.tbl]; rfl
      have s1 : wr.cell? ⟨tb, 1, none⟩ = some (.slice va rs.length cap) := by rw [World.cell?, hC.tbl.tbl]; rfl
      have s2 : wr.cell? ⟨w.heap.size, 0, none⟩ = some (.slice none 0 0) := by rw [World.cell?, hC.res]; rfl
      have s3 : wr.cell? ⟨w.heap.size, 1, none⟩ = some (.slice none 0 0) := by rw [World.cell?, hC.res]; rfl
      have s4 : wr.frozen? ⟨w.heap.size, 0, none⟩ = false := by simp [World.frozen?, hC.res]
      have s5 : wr.frozen? ⟨w.heap.size, 1, none⟩ = false := by simp [World.frozen?, hC.res]
      have HC3 : Hid (Cb w wr mb tb n (.slice va rs.length cap) rb R X rs M m) := hC
      have HA : Hid (Agree n M X rs) := hA
      clear hC hA
      go_wp2
      refine bodyPost_ret (v := .agg #[.slice (some ⟨rb, 0, none⟩) n n, .slice va rs.length cap]) (by simp [results, Yba.results10, go_sem, s2, s3]) rfl ⟨_, rb, R, X, rs, M, rfl, ?_, ?_, HC3.out.good, by omega, ?_, HA.out⟩
      · exact (HC3.out.kept.setCell (p := ⟨w.heap.size, 0, none⟩) (fun h => by simp at h) _).setCell (p := ⟨w.heap.size, 1, none⟩) (fun h => by simp at h) _
      · have h2 : (wr.setCell ⟨w.heap.size, 0, none⟩ (.slice (some ⟨rb, 0, none⟩) n n)).heap[w.heap.size]? = some (.cells #[.slice (some ⟨rb, 0, none⟩) n n, .slice none 0 0] 27 (0, 0)) := by simp [World.setCell, Array.getElem?_modify, HC3.out.res]
        exact ((HC3.out.tbl.tab.setFar (a := ⟨w.heap.size, 0, none⟩) HC3.out.res _).setFar (a := ⟨w.heap.size, 1, none⟩) h2 _).mono (fun k hk hlt => ⟨hk.1, hlt⟩)
      · exact (HC3.out.mod.setOther (show mb ≠ w.heap.size by omega) _).setOther (show mb ≠ w.heap.size by omega) _

end Go.Proofs.Ybulkbsio
