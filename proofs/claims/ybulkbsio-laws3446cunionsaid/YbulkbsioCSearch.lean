import Derived.Test.YbulkbsioCFind
namespace Go.Proofs.Ybulkbsio
open Go.RowKit Go.Deep

/-- The runs' order. -/
def lt2 (n1 f1 n2 f2 : Int) : Prop := n1 < n2 ∨ (n1 = n2 ∧ f1 < f2)

theorem cmpR_neg (n1 f1 n2 f2 : Int) : cmpR n1 f1 n2 f2 < 0 ↔ lt2 n1 f1 n2 f2 := by
  unfold cmpR orF cmpF lt2
  repeat' split
  all_goals omega

theorem cmpR_zero (n1 f1 n2 f2 : Int) : cmpR n1 f1 n2 f2 = 0 ↔ n1 = n2 ∧ f1 = f2 := by
  unfold cmpR orF cmpF
  repeat' split
  all_goals omega

def SortedR (rs : List Rn) : Prop := ∀ (i j : Nat) (x y : Rn), i < j → rs[i]? = some x → rs[j]? = some y → lt2 x.node x.frm y.node y.frm

theorem sorted_lo {rs : List Rn} (hs : SortedR rs) {m : Nat} {r : Rn} (hr : rs[m]? = some r) {N F : Int} (hl : lt2 r.node r.frm N F) : ∀ k x, k < m + 1 → rs[k]? = some x → lt2 x.node x.frm N F := by
  intro k x hk hx
  by_cases e : k = m
  · subst e; rw [hr] at hx; simp only [Option.some.injEq] at hx; subst hx; exact hl
  · have := hs k m x r (by omega) hx hr
    unfold lt2 at *
    omega

theorem sorted_hi {rs : List Rn} (hs : SortedR rs) {m : Nat} {r : Rn} (hr : rs[m]? = some r) {N F : Int} (hl : ¬ lt2 r.node r.frm N F) : ∀ k x, m ≤ k → rs[k]? = some x → ¬ lt2 x.node x.frm N F := by
  intro k x hk hx
  by_cases e : k = m
  · subst e; rw [hr] at hx; simp only [Option.some.injEq] at hx; subst hx; exact hl
  · have := hs m k r x (by omega) hr hx
    unfold lt2 at *
    omega

theorem cell_later {w w' : World} {B : Nat} {a : Addr} {v : Value} (h : Below B w w') (hb : a.block < B) (c : w.cell? a = some v) : w'.cell? a = some v := by
  rw [World.cell?_of_block (h.block a.block hb)]; exact c

set_option maxHeartbeats 4000000 in
theorem search_any (w : World) (S : Nat → Prop) (n : Nat) (rb : Nat) (R : Nat → Nat) (X : Nat → Nat → Int) (rs : List Rn) (v0 v1 : Value) (N F : Int) (s2 : Value)
    (hT : Tab w S n v0 v1 rb R X rs) (hrl : rs.length ≤ 1000000) (hs : SortedR rs) :
    Calls Yba.prog 23 #[v1, .agg #[.int .i64 N, .int .u64 F, s2], .func (.func 24) #[] #[]] w fun e w' => (∃ (i : Nat) (B : Bool), i ≤ rs.length ∧ (∀ m x, m < i → rs[m]? = some x → lt2 x.node x.frm N F) ∧ (∀ m x, i ≤ m → rs[m]? = some x → ¬ lt2 x.node x.frm N F) ∧
      (B = true → ∃ x, rs[i]? = some x ∧ x.node = N ∧ x.frm = F) ∧ (B = false → ∀ x, rs[i]? = some x → ¬ (x.node = N ∧ x.frm = F)) ∧ e = .returned (.tuple #[.int .i64 i, .bool B])) ∧ Below w.heap.size w w' := by
  obtain ⟨va, cap, rfl, hcap, hcm, -⟩ := hT.slice
  have HS : Hid (SortedR rs) := hs
  clear hs
  go_enter Yba.func23, Yba.ntmps23
  go_wp2_with fail
  go_loopg [9, 10] rs.length (fun g i j wr => ∃ a b : Nat, a ≤ b ∧ b ≤ rs.length ∧ g = b - a ∧ i = .int .i64 a ∧ j = .int .i64 b ∧ (∀ m x, m < a → rs[m]? = some x → lt2 x.node x.frm N F) ∧ (∀ m x, b ≤ m → rs[m]? = some x → ¬ lt2 x.node x.frm N F) ∧ Below w.heap.size w wr ∧ wr.heap[w.heap.size]? = some (.cells #[.int .i64 N, .int .u64 F, s2] 34 (0, 0)))
  case atStart => 
    refine ⟨0, rs.length, Nat.zero_le _, Nat.le_refl _, rfl, rfl, rfl, by omega, fun m x hm hx => ?_, ?_, ?_⟩
    · rw [List.getElem?_eq_none (by omega)] at hx; simp at hx
    · exact (Below.refl _ _).alloc (Nat.le_refl _) _
    · exact blk_alloc_new _ _
  case round =>
    obtain ⟨a, b, hab, hbl, rfl, rfl, rfl, hlo, hhi, hB, ht⟩ := hrel
    have HL : Hid (∀ m x, m < a → rs[m]? = some x → lt2 x.node x.frm N F) := hlo
    have HH : Hid (∀ m x, b ≤ m → rs[m]? = some x → ¬ lt2 x.node x.frm N F) := hhi
    clear hlo hhi
    by_cases hl : a < b
    · have hlz : (a : Int) < (b : Int) := by omega
      obtain ⟨m, hm0⟩ : ∃ m, m = (a + b) / 2 := ⟨_, rfl⟩
      have hma : a ≤ m := by omega
      have hmb : m < b := by omega
      have hm : ((a : Int) + (b : Int)) / 2 = (m : Int) := by omega
      have hmr : (m : Int) < (rs.length : Int) := by omega
      clear hm0
      obtain ⟨r, hr⟩ : ∃ r, rs[m]? = some r := ⟨_, List.getElem?_eq_getElem (by omega)⟩
      have hT' := hT.kept (w' := wr) (fun k _ hk => hB.block k hk)
      obtain ⟨g, rfl, -, hg, d0, d1, d2, -⟩ := hT'.run_at hr
      have HR : Hid (rs[m]? = some r) := hr
      have c0 : wr.cell? ⟨w.heap.size, 0, none⟩ = some (.int .i64 N) := by rw [World.cell?, ht]; rfl
      have c1 : wr.cell? ⟨w.heap.size, 1, none⟩ = some (.int .u64 F) := by rw [World.cell?, ht]; rfl
      have c2 : wr.cell? ⟨w.heap.size, 2, none⟩ = some s2 := by rw [World.cell?, ht]; rfl
      have lt : w.heap.size < wr.heap.size := (Array.getElem?_eq_some_iff.1 ht).1
      have HT : Hid (wr.heap[w.heap.size]? = some (.cells #[.int .i64 N, .int .u64 F, s2] 34 (0, 0))) := ht
      have HC := compare_any wr.drew r.node r.frm N F (.slice (some ⟨r.blk, 0, none⟩) n n) s2
      have hz := cmpR_neg r.node r.frm N F
      generalize cmpR r.node r.frm N F = z at HC hz
      clear hT' hr ht
      by_cases e1 : z < 0
      · have HE : Hid (lt2 r.node r.frm N F) := hz.1 e1
        clear hz
        go_wp2_with fail
        go_region_held3 (fun w' => w'.cell? ⟨g, m * 3, none⟩ = some (.int .i64 r.node) ∧ w'.cell? ⟨g, m * 3 + 1, none⟩ = some (.int .u64 r.frm) ∧ w'.cell? ⟨g, m * 3 + 2, none⟩ = some (.slice (some ⟨r.blk, 0, none⟩) n n) ∧ w'.cell? ⟨w.heap.size, 0, none⟩ = some (.int .i64 N) ∧ w'.cell? ⟨w.heap.size, 1, none⟩ = some (.int .u64 F) ∧ w'.cell? ⟨w.heap.size, 2, none⟩ = some s2)
          (first
            | exact ⟨d0, d1, d2, c0, c1, c2⟩
            | exact ⟨cell_later hb' hg d0, cell_later hb' hg d1, cell_later hb' hg d2, cell_later hb' lt c0, cell_later hb' lt c1, cell_later hb' lt c2⟩
            | go_keep)
          ((go_at_call 24; refine HC.mono ?_; rintro e w' ⟨rfl, hb'⟩))
        go_wp2
        go_roundg (b - (m + 1))
        case measure => go_light; omega
        case rel => go_light; exact ⟨m + 1, b, by omega, hbl, rfl, by go_num, rfl, sorted_lo HS.out HR.out HE.out, HH.out, hB.drew.trans (hb'.mono hB.size), (hb'.block _ lt).trans HT.out⟩
      · have HE : Hid (¬ lt2 r.node r.frm N F) := fun h => e1 (hz.2 h)
        clear hz
        go_wp2_with fail
        go_region_held3 (fun w' => w'.cell? ⟨g, m * 3, none⟩ = some (.int .i64 r.node) ∧ w'.cell? ⟨g, m * 3 + 1, none⟩ = some (.int .u64 r.frm) ∧ w'.cell? ⟨g, m * 3 + 2, none⟩ = some (.slice (some ⟨r.blk, 0, none⟩) n n) ∧ w'.cell? ⟨w.heap.size, 0, none⟩ = some (.int .i64 N) ∧ w'.cell? ⟨w.heap.size, 1, none⟩ = some (.int .u64 F) ∧ w'.cell? ⟨w.heap.size, 2, none⟩ = some s2)
          (first
            | exact ⟨d0, d1, d2, c0, c1, c2⟩
            | exact ⟨cell_later hb' hg d0, cell_later hb' hg d1, cell_later hb' hg d2, cell_later hb' lt c0, cell_later hb' lt c1, cell_later hb' lt c2⟩
            | go_keep)
          ((go_at_call 24; refine HC.mono ?_; rintro e w' ⟨rfl, hb'⟩))
        go_wp2
        go_roundg (m - a)
        case measure => go_light; omega
        case rel => go_light; exact ⟨a, m, by omega, by omega, rfl, rfl, rfl, HL.out, sorted_hi HS.out HR.out HE.out, hB.drew.trans (hb'.mono hB.size), (hb'.block _ lt).trans HT.out⟩
    · have hlz : ¬ (a : Int) < (b : Int) := by omega
      have hba : b = a := by omega
      subst hba
      clear hab hl
      by_cases hbr : b < rs.length
      · have hbz : (b : Int) < (rs.length : Int) := by omega
        obtain ⟨r, hr⟩ : ∃ r, rs[b]? = some r := ⟨_, List.getElem?_eq_getElem (by omega)⟩
        have hT' := hT.kept (w' := wr) (fun k _ hk => hB.block k hk)
        obtain ⟨g, rfl, -, hg, d0, d1, d2, -⟩ := hT'.run_at hr
        have HR : Hid (rs[b]? = some r) := hr
        have c0 : wr.cell? ⟨w.heap.size, 0, none⟩ = some (.int .i64 N) := by rw [World.cell?, ht]; rfl
        have c1 : wr.cell? ⟨w.heap.size, 1, none⟩ = some (.int .u64 F) := by rw [World.cell?, ht]; rfl
        have c2 : wr.cell? ⟨w.heap.size, 2, none⟩ = some s2 := by rw [World.cell?, ht]; rfl
        have lt : w.heap.size < wr.heap.size := (Array.getElem?_eq_some_iff.1 ht).1
        have HC := compare_any wr.drew r.node r.frm N F (.slice (some ⟨r.blk, 0, none⟩) n n) s2
        have hz := cmpR_zero r.node r.frm N F
        generalize cmpR r.node r.frm N F = z at HC hz
        clear hT' hr ht
        have HZ : Hid (z = 0 ↔ r.node = N ∧ r.frm = F) := hz
        clear hz
        go_wp2_with fail
        go_region_held3 (fun w' => w'.cell? ⟨g, b * 3, none⟩ = some (.int .i64 r.node) ∧ w'.cell? ⟨g, b * 3 + 1, none⟩ = some (.int .u64 r.frm) ∧ w'.cell? ⟨g, b * 3 + 2, none⟩ = some (.slice (some ⟨r.blk, 0, none⟩) n n) ∧ w'.cell? ⟨w.heap.size, 0, none⟩ = some (.int .i64 N) ∧ w'.cell? ⟨w.heap.size, 1, none⟩ = some (.int .u64 F) ∧ w'.cell? ⟨w.heap.size, 2, none⟩ = some s2)
          (first
            | exact ⟨d0, d1, d2, c0, c1, c2⟩
            | exact ⟨cell_later hb' hg d0, cell_later hb' hg d1, cell_later hb' hg d2, cell_later hb' lt c0, cell_later hb' lt c1, cell_later hb' lt c2⟩
            | go_keep)
          ((go_at_call 24; refine HC.mono ?_; rintro e w' ⟨rfl, hb'⟩))
        go_wp2
        go_ret2
        refine ⟨⟨b, z == 0, hbl, HL.out, HH.out, fun h => ⟨r, HR.out, HZ.out.1 (by simpa using h)⟩, fun h x hx => ?_, rfl⟩, hB.drew.trans (hb'.mono hB.size)⟩
        rw [HR.out] at hx
        simp only [Option.some.injEq] at hx
        subst hx
        exact fun h' => by simp [HZ.out.2 h'] at h
      · have hbz : ¬ (b : Int) < (rs.length : Int) := by omega
        have hbz' : decide ((b : Int) < (rs.length : Int)) = false := by simp; omega
        go_wp2_with fail
        go_quiet (fail)
        go_wp2
        go_ret2
        refine ⟨⟨b, false, hbl, HL.out, HH.out, fun h => by simp at h, fun h x hx => ?_, rfl⟩, ?_⟩
        · rw [List.getElem?_eq_none (by omega)] at hx; simp at hx
        · exact ⟨hB.os, hB.tape, hB.output, hB.size, hB.block⟩
end Go.Proofs.Ybulkbsio
