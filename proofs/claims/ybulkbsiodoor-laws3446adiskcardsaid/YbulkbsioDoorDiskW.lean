import Derived.Test.YbulkbsioDoorDiskC
import Derived.Test.YbulkbsioDoorDiskB
namespace Go.Proofs.YbulkbsioDoor
open Go.RowKit Go.Deep Go.RwLone
attribute [local go_sem ↓] Go.wp_at_zero Go.wp_at_succ

/-- A whole array read, in a region that draws its order and only reads. -/
theorem wpQuiet_load_mid {P : Program} {ops : Array Oper} {C : World → Prop} {Q : Act → Prop} {o : Oper} {rest : List Oper} {a : Act} (hg : o.guard = none) (ty : TypeId) (x : Operand) (ho : o.op = .load ty x) (b of : Nat) (hx : a.eval x = .pointer (some ⟨b, of, none⟩)) (cs : List Value) (d : TypeDesc)
    (hC : ∀ w, C w → w.rangeAt b of cs) (hu : P.underlying ty = some d) (hd : d.isRow = true) (hi : (P.info? ty).map (·.size) = some cs.length) (h : wpQuiet P ops C Q rest (a.put o.dst (.agg cs.toArray))) : wpQuiet P ops C Q (o :: rest) a := by
  refine wpQuiet_step fun K hK => ?_
  rw [if_pos (by simp [Region.wanted, hg])]
  refine ⟨.agg cs.toArray, fun w hw => ?_, hK _ h⟩
  unfold Oper.quietAt execOp
  simp only [ho, hx, Instr.loadAt, Instr.sureAddr, Sem.run_bind, Sem.run_pure, Result.andThen_ok, run_loadVar_mid w b of ty cs d (hC w hw) hu hd hi]
  exact ⟨rfl, rfl⟩

/-- What the law reads behind Counts. -/
structure DiskW (w w1 : World) (nb sb g cap : Nat) (p c t : Int) (Z : Array Value) (z : Nat → Int) : Prop where
  bel : Below w.heap.size w w1
  size : w.heap.size + 1 + 1 + 1 ≤ w1.heap.size
  sv : w1.heap[sb]? = some (.cells #[.int .u64 c, .int .i64 t, .slice (some ⟨g, 0, none⟩) 16 cap] 85 (0, 0))
  bk : ∀ i, i < 16 → w1.cell? ⟨g, i * 2, none⟩ = some (.int .i64 (bnd.getD i 0)) ∧ w1.cell? ⟨g, i * 2 + 1, none⟩ = some (.int .u64 (z i))
  gl : g < w1.heap.size
  zb : w1.heap[w.heap.size]? = some (.cells Z 27 (0, 0))
  zc : ∀ i, i < 16 → Z[i]? = some (.int .u64 (z i))
  jb : w1.cell? ⟨w.heap.size + 1, 0, none⟩ = some (.int .i64 0)
  n35 : w1.cell? ⟨nb, 35, none⟩ = some (.int .u64 p)
  n38 : w1.cell? ⟨nb, 38, none⟩ = some (.int .u64 c)
  n40 : ∀ i, i < 16 → w1.cell? ⟨nb, 40 + i, none⟩ = some (.int .u64 (z i))

theorem DiskW.later {w w1 w2 : World} {nb sb g cap : Nat} {p c t : Int} {Z : Array Value} {z : Nat → Int} (h : DiskW w w1 nb sb g cap p c t Z z) (hb : Below w1.heap.size w1 w2) : DiskW w w2 nb sb g cap p c t Z z where
  bel := h.bel.trans (hb.mono h.bel.size)
  size := Nat.le_trans h.size hb.size
  sv := by rw [hb.block _ (Array.getElem?_eq_some_iff.1 h.sv).1]; exact h.sv
  bk := fun i hi => ⟨cell_later hb (h.bk i hi).1, cell_later hb (h.bk i hi).2⟩
  gl := Nat.lt_of_lt_of_le h.gl hb.size
  zb := by rw [hb.block _ (Array.getElem?_eq_some_iff.1 h.zb).1]; exact h.zb
  zc := h.zc
  jb := cell_later hb h.jb
  n35 := cell_later hb h.n35
  n38 := cell_later hb h.n38
  n40 := fun i hi => cell_later hb (h.n40 i hi)

theorem bks_get (W : Nat → Int) (n i : Nat) (hi : i < n) : (bks W n)[i * 2]? = some (.int .i64 (bnd.getD i 0)) ∧ (bks W n)[i * 2 + 1]? = some (.int .u64 (W i)) := by
  induction n with
  | zero => omega
  | succ n ih =>
    rw [bks_succ]
    have hl := bks_len W n
    by_cases e : i = n
    · subst e
      rw [List.getElem?_append_right (by omega), List.getElem?_append_right (by omega), hl]
      exact ⟨by simp, by simp⟩
    · rw [List.getElem?_append_left (by omega), List.getElem?_append_left (by omega)]
      exact ih (by omega)

theorem disk_mk {w w1 : World} {o1 o2 o3 : Obj} {nb sb g cap : Nat} {p c t : Int} {Z : Array Value} {z : Nat → Int} (hb : Below (((w.alloc o1).alloc o2).alloc o3).heap.size (((w.alloc o1).alloc o2).alloc o3) w1) (_hsb : (((w.alloc o1).alloc o2).alloc o3).heap.size ≤ sb)
    (hsv : w1.heap[sb]? = some (.cells #[.int .u64 c, .int .i64 t, .slice (some ⟨g, 0, none⟩) 16 cap] 85 (0, 0))) (hown : w1.ownsRow 0 87 2 (.slice (some ⟨g, 0, none⟩) 16 cap) 16 (bks z 16))
    (hzb : (((w.alloc o1).alloc o2).alloc o3).heap[w.heap.size]? = some (.cells Z 27 (0, 0))) (hjb : (((w.alloc o1).alloc o2).alloc o3).cell? ⟨w.heap.size + 1, 0, none⟩ = some (.int .i64 0))
    (h35 : (((w.alloc o1).alloc o2).alloc o3).cell? ⟨nb, 35, none⟩ = some (.int .u64 p)) (h38 : (((w.alloc o1).alloc o2).alloc o3).cell? ⟨nb, 38, none⟩ = some (.int .u64 c)) (h40 : ∀ i, i < 16 → (((w.alloc o1).alloc o2).alloc o3).cell? ⟨nb, 40 + i, none⟩ = some (.int .u64 (z i)))
    (hZ : ∀ i, i < 16 → Z[i]? = some (.int .u64 (z i))) : DiskW w w1 nb sb g cap p c t Z z := by
  have hs := hb.size
  rw [nblk_alloc, nblk_alloc, nblk_alloc] at hs
  have hgg : g < w1.heap.size := by
    rcases hown.2 with ⟨hv, _⟩ | ⟨g', cap', cur, hv, _, hh, _⟩
    · simp at hv
    · simp only [Value.slice.injEq, Option.some.injEq, Addr.mk.injEq, and_true, true_and] at hv
      obtain ⟨rfl, -⟩ := hv
      exact (Array.getElem?_eq_some_iff.1 hh).1
  refine ⟨((((Below.refl _ _).alloc (Nat.le_refl _) _).alloc (by simp) _).alloc (by simp; omega) _).trans (hb.mono (by simp; omega)), hs, hsv, fun i hi => ?_, hgg, by rw [hb.block _ (Array.getElem?_eq_some_iff.1 hzb).1]; exact hzb, hZ, cell_later hb hjb, cell_later hb h35, cell_later hb h38, fun i hi => cell_later hb (h40 i hi)⟩
  have key : ∀ j u, (bks z 16)[j]? = some u → w1.cell? ⟨g, j, none⟩ = some u := fun j u hu => by
    have := hown.cells (g := g) rfl j u hu
    rw [Addr.add_mid] at this
    simpa using this
  exact ⟨key _ _ (bks_get z 16 i hi).1, key _ _ (bks_get z 16 i hi).2⟩

set_option maxHeartbeats 3200000 in
set_option maxRecDepth 100000 in
theorem disk_walk (p d r c t : Int) (z : Nat → Int) (w : World) (t0 : TypeId) (fr : Nat × Nat) (hg0 : w.heap[0]? = some (.cells BA t0 fr)) :
    Calls Ybad.prog 4 #[.int .u64 p, .int .u64 d, .int .u64 r, .int .u64 c, .int .i64 t, .agg (Zw z)] w fun e w' => e = .returned (.bool true) ∧ Below w.heap.size w w' := by
  have h0 : 0 < w.heap.size := (Array.getElem?_eq_some_iff.1 hg0).1
  have hZg := Zw_get z
  have hbs := build_syncs c t z
  have hbn := build_node_disk p d r c t z ⟨w.heap.size + 1, 0, none⟩
  have hN40 := node_get40 p d r c t (.iface 80 (.pointer (some ⟨w.heap.size + 1, 0, none⟩))) z
  have hZs : (Zw z).size = 16 := rfl
  obtain ⟨Z, hZ⟩ : ∃ Z, Z = Zw z := ⟨_, rfl⟩
  obtain ⟨N, hN⟩ : ∃ N, N = nodeCells p d r c t (.iface 80 (.pointer (some ⟨w.heap.size + 1, 0, none⟩))) (Zw z).toList := ⟨_, rfl⟩
  obtain ⟨S, hS⟩ : ∃ S, S = Sw c t z := ⟨_, rfl⟩
  rw [← hN] at hN40 hbn
  rw [← hZ] at hZg hbs hZs ⊢
  rw [← hS] at hbs hbn
  have n6 : N[6]? = some (.int .i32 0) := by rw [hN]; rfl
  have n8 : N[8]? = some (.int .u32 0) := by rw [hN]; rfl
  have n9 : N[9]? = some (.int .u32 0) := by rw [hN]; rfl
  have n10 : N[10]? = some (.int .i32 0) := by rw [hN]; rfl
  have n24 : N[24]? = some (.iface 80 (.pointer (some ⟨w.heap.size + 1, 0, none⟩))) := by rw [hN]; rfl
  have n35 : N[35]? = some (.int .u64 p) := by rw [hN]; rfl
  have n36 : N[36]? = some (.int .u64 d) := by rw [hN]; rfl
  have n37 : N[37]? = some (.int .u64 r) := by rw [hN]; rfl
  have n38 : N[38]? = some (.int .u64 c) := by rw [hN]; rfl
  have n39 : N[39]? = some (.int .i64 t) := by rw [hN]; rfl
  have hi27 : (Ybad.prog.info? 27).map (·.size) = some Z.size := by rw [hZs]; kernel_rfl
  have heq := eq_arr Z z (fun i hi => hZg i hi)
  clear hN hZ hS
  have HS1 : Hid (∀ w, (Instr.build 29 #[(0, .int .u64 c), (1, .int .i64 t), (2, .agg Z)]).run Ybad.prog w = .ok (.agg S) w) := hbs
  have HN1 : Hid (∀ w', (Instr.build 74 #[(18, .agg #[.int .u64 p, .int .u64 d, .int .u64 r]), (12, .iface 80 (.pointer (some ⟨w.heap.size + 1, 0, none⟩))), (19, .agg S)]).run Ybad.prog w' = .ok (.agg N) w') := hbn
  have H40 : Hid (∀ m, m < 16 → N[40 + m]? = some (.int .u64 (z m))) := hN40
  have HZ : Hid (∀ m, m < 16 → Z[m]? = some (.int .u64 (z m))) := hZg
  have HE : Hid (∀ w, (Op.equalIn 10000 27 (.agg Z) (.agg Z)).run Ybad.prog w = .ok true w) := heq
  have hzb : ((w.alloc (.cells Z 27)).alloc (.cells #[.int .i64 0] 82)).heap[w.heap.size]? = some (.cells Z 27 (0, 0)) := by rw [blk_alloc_lt _ _ _ (by simp), blk_alloc_new]
  clear hbs hbn hN40 hZg heq
  go_enter Ybad.func4, Ybad.ntmps4
  go_upto_region 2 with fail
  go_wp2_with (first | refine wpList_load_row rfl 27 (.tmp 11) rfl w.heap.size rfl 27 Z (0, 0) _ hzb Ybad.underlying27 rfl hi27 ?_ | refine wpList_build rfl 29 [(0, .tmp 26), (1, .tmp 27), (2, .tmp 28)] rfl [(0, .int .u64 c), (1, .int .i64 t), (2, .agg Z)] (by rfl) _ (HS1.out _) ?_ | refine wpList_build rfl 74 [(18, .tmp 23), (12, .tmp 25), (19, .tmp 29)] rfl [(18, .agg #[.int .u64 p, .int .u64 d, .int .u64 r]), (12, .iface 80 (.pointer (some ⟨w.heap.size + 1, 0, none⟩))), (19, .agg S)] (by rfl) _ (HN1.out _) ?_)
  have hnode := blk_alloc_new ((w.alloc (.cells Z 27)).alloc (.cells #[.int .i64 0] 82)) (.cells N 74)
  rw [show ((w.alloc (.cells Z 27)).alloc (.cells #[.int .i64 0] 82)).heap.size = w.heap.size + 1 + 1 from by simp] at hnode
  have hc : ∀ (i : Nat) v, N[i]? = some v → (((w.alloc (.cells Z 27)).alloc (.cells #[.int .i64 0] 82)).alloc (.cells N 74)).cell? ⟨w.heap.size + 1 + 1, i, none⟩ = some v := fun i v h => (cell_of_row _ _ _ _ _ _ hnode).trans h
  have hz : ∀ (i : Nat), (((w.alloc (.cells Z 27)).alloc (.cells #[.int .i64 0] 82)).alloc (.cells N 74)).frozen? ⟨w.heap.size + 1 + 1, i, none⟩ = false := fun i => by
    unfold World.frozen?
    rw [hnode]
    simp
  have hg0' : (((w.alloc (.cells Z 27)).alloc (.cells #[.int .i64 0] 82)).alloc (.cells N 74)).heap[0]? = some (.cells BA t0 fr) := by
    rw [blk_alloc_lt _ _ _ (by simp), blk_alloc_lt _ _ _ (by simp), blk_alloc_lt _ _ _ h0]; exact hg0
  have hjb : (((w.alloc (.cells Z 27)).alloc (.cells #[.int .i64 0] 82)).alloc (.cells N 74)).cell? ⟨w.heap.size + 1, 0, none⟩ = some (.int .i64 0) := by
    have h := blk_alloc_new (w.alloc (.cells Z 27)) (.cells #[.int .i64 0] 82)
    rw [nblk_alloc] at h
    exact (cell_of_row _ _ _ _ _ _ ((blk_alloc_lt _ _ _ (by simp)).trans h)).trans rfl
  have hzb' : (((w.alloc (.cells Z 27)).alloc (.cells #[.int .i64 0] 82)).alloc (.cells N 74)).heap[w.heap.size]? = some (.cells Z 27 (0, 0)) := by
    rw [blk_alloc_lt _ _ _ (by simp; omega)]; exact hzb
  refine (counts_disk (w.heap.size + 1 + 1) p d r c t z _ _ _ _ _ _ t0 fr (hc _ _ n6) (hc _ _ n8) (hc _ _ n9) (hc _ _ n10) (hz 10) (hc _ _ n24) (hc _ _ n35) (hc _ _ n36) (hc _ _ n37) (hc _ _ n38) (hc _ _ n39) (fun i hi => hc _ _ (H40.out i hi)) hg0' (by omega)).mono ?_
  rintro e w1 ⟨sb, g, cap, rfl, hb, hsb, hsv, hown⟩
  have hD : DiskW w w1 (w.heap.size + 1 + 1) sb g cap p c t Z z := disk_mk hb hsb hsv hown hzb' hjb (hc _ _ n35) (hc _ _ n38) (fun i hi => hc _ _ (H40.out i hi)) HZ.out
  clear hb hsb hsv hown hzb' hjb hzb hc hz hnode hg0 hg0' n6 n8 n9 n10 n24 n35 n36 n37 n38 n39 HS1 HN1 H40 HZ hi27
  have l1 : w.heap.size + 1 + 1 < w1.heap.size := by have := hD.size; omega
  have q1 : w1.cell? ⟨sb, 0, none⟩ = some (.int .u64 c) := by simp [World.cell?, hD.sv]
  have q2 : w1.cell? ⟨sb, 1, none⟩ = some (.int .i64 t) := by simp [World.cell?, hD.sv]
  have q3 : w1.cell? ⟨sb, 2, none⟩ = some (.slice (some ⟨g, 0, none⟩) 16 cap) := by simp [World.cell?, hD.sv]
  have l2 : sb < w1.heap.size := (Array.getElem?_eq_some_iff.1 hD.sv).1
  go_wp2
  have hcv := blk_alloc_new w1 (.cells #[.int .u64 p, .int .u64 d, .int .u64 r, .pointer (some ⟨sb, 0, none⟩)] 77)
  have hD2 := hD.later ((Below.refl _ _).alloc (Nat.le_refl _) (.cells #[.int .u64 p, .int .u64 d, .int .u64 r, .pointer (some ⟨sb, 0, none⟩)] 77))
  clear hD q1 q2 q3 l2
  go_loopg [16, 17] 16 (fun k i _ wx => ∃ m : Nat, m ≤ 16 ∧ k = 16 - m ∧ i = .int .i64 m ∧ DiskW w wx (w.heap.size + 1 + 1) sb g cap p c t Z z ∧ wx.heap[w1.heap.size]? = some (.cells #[.int .u64 p, .int .u64 d, .int .u64 r, .pointer (some ⟨sb, 0, none⟩)] 77 (0, 0)))
  case atStart => exact ⟨0, Nat.zero_le _, rfl, rfl, hD2, hcv⟩
  case round =>
    clear hD2 hcv
    obtain ⟨m, hm, rfl, rfl, hD, hcv⟩ := hrel
    by_cases hmu : m < 16
    · have hmz : (m : Int) < 16 := by omega
      obtain ⟨bm, hbm⟩ : ∃ bm, bm = bnd.getD m 0 := ⟨_, rfl⟩
      have q0 : wr.cell? ⟨w1.heap.size, 3, none⟩ = some (.pointer (some ⟨sb, 0, none⟩)) := by simp [World.cell?, hcv]
      have q3 : wr.cell? ⟨sb, 2, none⟩ = some (.slice (some ⟨g, 0, none⟩) 16 cap) := by simp [World.cell?, hD.sv]
      obtain ⟨q4, q5⟩ := hD.bk m hmu
      rw [← hbm] at q4
      have q6 : wr.cell? ⟨w.heap.size, m, none⟩ = some (.int .u64 (z m)) := (cell_of_row _ _ _ _ _ _ hD.zb).trans (hD.zc m hmu)
      have CB : Hid (∀ wx, Calls Ybad.prog 6 #[.int .i64 m] wx fun e w' => e = .returned (.int .i64 bm) ∧ Below wx.heap.size wx w') := fun wx => by rw [hbm]; exact bound_any m hmu wx
      clear hbm
      have l3 : w.heap.size < wr.heap.size := (Array.getElem?_eq_some_iff.1 hD.zb).1
      have c1 : (wr.alloc (.cells #[.int .i64 bm, .int .u64 (z m)] 87)).cell? ⟨wr.heap.size, 0, none⟩ = some (.int .i64 bm) := (cell_of_row _ _ _ _ _ _ (blk_alloc_new _ _)).trans rfl
      have c2 : (wr.alloc (.cells #[.int .i64 bm, .int .u64 (z m)] 87)).cell? ⟨wr.heap.size, 1, none⟩ = some (.int .u64 (z m)) := (cell_of_row _ _ _ _ _ _ (blk_alloc_new _ _)).trans rfl
      have c3 : (wr.alloc (.cells #[.int .i64 bm, .int .u64 (z m)] 87)).cell? ⟨w.heap.size, m, none⟩ = some (.int .u64 (z m)) := by rw [World.cell?_of_block (blk_alloc_lt _ _ _ l3)]; exact q6
      have hq0 : Below (wr.alloc (.cells #[.int .i64 bm, .int .u64 (z m)] 87)).heap.size (wr.alloc (.cells #[.int .i64 bm, .int .u64 (z m)] 87)) (wr.alloc (.cells #[.int .i64 bm, .int .u64 (z m)] 87)).drew := (Below.refl _ _).drew
      go_upto_region 16 with fail
      go_region_held3 (fun w' => w'.cell? ⟨wr.heap.size, 0, none⟩ = some (.int .i64 bm) ∧ w'.cell? ⟨wr.heap.size, 1, none⟩ = some (.int .u64 (z m)) ∧ w'.cell? ⟨w.heap.size, m, none⟩ = some (.int .u64 (z m)))
        (first
          | exact ⟨c1, c2, c3⟩
          | exact ⟨cell_later hBn c1, cell_later hBn c2, cell_later hBn c3⟩
          | go_keep)
        ((go_at_call 6; refine (CB.out _).mono ?_; rintro e w'' ⟨rfl, hbx⟩; have hBn := hq0.trans (hbx.mono hq0.size)))
      go_wp2
      go_roundg (16 - (m + 1))
      case measure => go_light; omega
      case rel =>
        go_light
        have hBB : Below wr.heap.size wr w'' := ((Below.refl _ _).alloc (Nat.le_refl _) _).trans (hBn.mono (by simp))
        exact ⟨m + 1, by omega, rfl, by go_num, hD.later hBB, by rw [hBB.block _ (Array.getElem?_eq_some_iff.1 hcv).1]; exact hcv⟩
    · have hjb := hD.jb
      have hn35 := hD.n35
      have hn38 := hD.n38
      obtain ⟨cs, hcs⟩ : ∃ cs, cs = Z.toList := ⟨_, rfl⟩
      have hlen : cs.length = 16 := by rw [hcs]; simpa using hZs
      have hi : (Ybad.prog.info? 27).map (·.size) = some cs.length := by rw [hlen]; kernel_rfl
      have heq : ∀ w, (Op.equalIn 10000 27 (.agg cs.toArray) (.agg cs.toArray)).run Ybad.prog w = .ok true w := by rw [hcs]; simpa using HE.out
      have r1 : wr.rangeAt (w.heap.size + 1 + 1) 40 cs := fun j v hv => by
        have hj : j < 16 := by rw [← hlen]; exact (List.getElem?_eq_some_iff.1 hv).1
        have h1 := hD.zc j hj
        rw [hcs, Array.getElem?_toList] at hv
        rw [h1] at hv
        rw [← hv]
        exact hD.n40 j hj
      have r2 : wr.rangeAt w.heap.size 0 cs := fun j v hv => by
        rw [hcs, Array.getElem?_toList] at hv
        rw [Nat.zero_add]
        exact (cell_of_row _ _ _ _ _ _ hD.zb).trans hv
      have hr1 : ∀ w', (∃ n, w' = wr.drewN n) → w'.rangeAt (w.heap.size + 1 + 1) 40 cs := fun w' ⟨n, e⟩ => by subst e; exact r1
      have hr2 : ∀ w', (∃ n, w' = wr.drewN n) → w'.rangeAt w.heap.size 0 cs := fun w' ⟨n, e⟩ => by subst e; exact r2
      have HR : Hid ((∀ w', (∃ n, w' = wr.drewN n) → w'.rangeAt (w.heap.size + 1 + 1) 40 cs) ∧ (∀ w', (∃ n, w' = wr.drewN n) → w'.rangeAt w.heap.size 0 cs) ∧ (Ybad.prog.info? 27).map (·.size) = some cs.length) := ⟨hr1, hr2, hi⟩
      clear hcs HE hZs r1 r2 hi hlen hr1 hr2
      go_wp2
      refine wp_region_quiet_lit (by kernel_rfl) (by kernel_rfl) ?_
      repeat (first | go_big_quiet_step (fail) | (refine wpQuiet_load_mid rfl 27 (.tmp 109) rfl (w.heap.size + 1 + 1) 40 rfl cs _ HR.out.1 Ybad.underlying27 rfl HR.out.2.2 ?_; simp only [Act.put, List.setIfInBounds_toArray, List.set_cons_zero, List.set_cons_succ]) | (refine wpQuiet_load_mid rfl 27 (.tmp 11) rfl w.heap.size 0 rfl cs _ HR.out.2.1 Ybad.underlying27 rfl HR.out.2.2 ?_; simp only [Act.put, List.setIfInBounds_toArray, List.set_cons_zero, List.set_cons_succ]))
      refine wpQuiet_nil ?_
      intro _ hw'
      obtain ⟨nq, hw''⟩ := hw'
      subst hw''
      go_wp2
      go_ret
      exact ⟨rfl, below_drewN hD.bel _⟩
end Go.Proofs.YbulkbsioDoor
