import Derived.Test.YbulkbsioCCmpR
namespace Go.Proofs.Ybulkbsio
open Go.RowKit Go.Deep

def ofNode (u : Int) (r : Rn) : Bool := decide (r.node = u)

theorem hmf (fn : Fn) (first cap : Array Value) (w : World) : (Instr.makeFunc fn first cap).run Yba.prog w = .ok (.func fn first cap) w := rfl

theorem has1_any (w : World) (n1 f1 u : Int) (s1 : Value) (b : Nat) (hb : b < w.heap.size) (c : w.cell? ⟨b, 0, none⟩ = some (.int .i64 u)) :
    Calls Yba.prog 31 #[.agg #[.int .i64 n1, .int .u64 f1, s1], .pointer (some ⟨b, 0, none⟩)] w fun e w' => e = .returned (.bool (decide (n1 = u))) ∧ Below w.heap.size w w' := by
  go_enter Yba.func31, Yba.ntmps31
  go_wp2
  go_ret
  refine ⟨ret_bool ?_, ((Below.refl _ _).alloc (Nat.le_refl _) _)⟩
  by_cases h : n1 = u <;> simp [h]

set_option maxHeartbeats 1000000 in
theorem index_any (w : World) (S : Nat → Prop) (n : Nat) (rb : Nat) (R : Nat → Nat) (X : Nat → Nat → Int) (rs : List Rn) (v0 v1 : Value) (u : Int) (b : Nat) (hb : b < w.heap.size) (c : w.cell? ⟨b, 0, none⟩ = some (.int .i64 u))
    (hT : Tab w S n v0 v1 rb R X rs) (hrl : rs.length ≤ 1000000) :
    Calls Yba.prog 37 #[v1, .func (.func 31) #[] #[.pointer (some ⟨b, 0, none⟩)]] w fun e w' => (∃ r : Int, e = .returned (.int .i64 r) ∧ decide (0 ≤ r) = rs.any (ofNode u)) ∧ Below w.heap.size w w' := by
  obtain ⟨va, cap, rfl, hcap, hcm, -⟩ := hT.slice
  go_enter Yba.func37, Yba.ntmps37
  go_wp2
  go_loopg [8] rs.length (fun g i wr => ∃ m : Nat, m ≤ rs.length ∧ g = rs.length - m ∧ i = .int .i64 m ∧ (rs.take m).any (ofNode u) = false ∧ Below w.heap.size w wr)
  case atStart => exact ⟨0, Nat.zero_le _, rfl, rfl, by simp, Below.refl _ _⟩
  case round =>
    obtain ⟨m, hm, rfl, rfl, hno, hB⟩ := hrel
    have HN : Hid ((rs.take m).any (ofNode u) = false) := hno
    clear hno
    by_cases hmr : m < rs.length
    · have hmz : (m : Int) < (rs.length : Int) := by omega
      obtain ⟨r, hr⟩ : ∃ r, rs[m]? = some r := ⟨_, List.getElem?_eq_getElem hmr⟩
      have hT' := hT.kept (w' := wr) (fun k _ hk => hB.block k hk)
      obtain ⟨g, rfl, -, hg, d0, d1, d2, -⟩ := hT'.run_at hr
      have cc : wr.cell? ⟨b, 0, none⟩ = some (.int .i64 u) := by rw [World.cell?_of_block (hB.block b hb)]; exact c
      have lb : b < wr.heap.size := Nat.lt_of_lt_of_le hb hB.size
      have HR : Hid (rs[m]? = some r) := hr
      clear hT' hr c
      have HC := has1_any wr r.node r.frm u (.slice (some ⟨r.blk, 0, none⟩) n n) b lb cc
      by_cases e1 : r.node = u
      · have HE : Hid (ofNode u r = true) := by simp only [Hid, ofNode, decide_eq_true_eq]; exact e1
        rw [show decide (r.node = u) = true by simp [e1]] at HC
        clear e1
        go_wp2_with fail
        refine HC.mono ?_
        rintro e w' ⟨rfl, hb'⟩
        go_wp2
        go_ret
        exact ⟨⟨m, rfl, by rw [List.any_eq_true.2 ⟨r, List.mem_of_getElem? HR.out, HE.out⟩]; simp⟩, hB.trans (hb'.mono hB.size)⟩
      · have HE : Hid (ofNode u r = false) := by simp only [Hid, ofNode, decide_eq_false_iff_not]; exact e1
        rw [show decide (r.node = u) = false by simp [e1]] at HC
        clear e1
        go_wp2_with fail
        refine HC.mono ?_
        rintro e w' ⟨rfl, hb'⟩
        go_wp2
        go_roundg (rs.length - (m + 1))
        case measure => go_light; omega
        case rel => go_light; exact ⟨m + 1, by omega, rfl, by go_num, by rw [any_take_succ _ _ _ _ HR.out, HN.out, HE.out]; rfl, hB.trans (hb'.mono hB.size)⟩
    · have hno := HN.out
      rw [List.take_of_length_le (by omega)] at hno
      go_wp2
      go_ret
      exact ⟨⟨-1, rfl, by rw [hno]; rfl⟩, hB⟩

theorem contains_any (w : World) (S : Nat → Prop) (n : Nat) (rb : Nat) (R : Nat → Nat) (X : Nat → Nat → Int) (rs : List Rn) (v0 v1 : Value) (u : Int) (b : Nat) (hb : b < w.heap.size) (c : w.cell? ⟨b, 0, none⟩ = some (.int .i64 u))
    (hT : Tab w S n v0 v1 rb R X rs) (hrl : rs.length ≤ 1000000) :
    Calls Yba.prog 30 #[v1, .func (.func 31) #[] #[.pointer (some ⟨b, 0, none⟩)]] w fun e w' => e = .returned (.bool (rs.any (ofNode u))) ∧ Below w.heap.size w w' := by
  have HC := index_any w S n rb R X rs v0 v1 u b hb c hT hrl
  clear hT c
  go_enter Yba.func30, Yba.ntmps30
  go_wp2_with fail
  refine HC.mono ?_
  rintro e w' ⟨⟨r, rfl, hr⟩, hb'⟩
  have HR : Hid (decide (0 ≤ r) = rs.any (ofNode u)) := hr
  clear hr
  go_wp2
  go_ret
  exact ⟨ret_bool HR.out, hb'⟩

theorem hasRuns_any (w : World) (S : Nat → Prop) (n : Nat) (rb : Nat) (R : Nat → Nat) (X : Nat → Nat → Int) (rs : List Rn) (v0 v1 : Value) (u : Int)
    (hT : Tab w S n v0 v1 rb R X rs) (hrl : rs.length ≤ 1000000) :
    Calls Yba.prog 22 #[.agg #[v0, v1], .int .i64 u] w fun e w' => e = .returned (.bool (rs.any (ofNode u))) ∧ Below w.heap.size w w' := by
  have hB : Below w.heap.size w ((w.alloc (.cells #[v0, v1] 27)).alloc (.cells #[.int .i64 u] 3)) := ((Below.refl _ _).alloc (Nat.le_refl _) _).alloc (by simp) _
  have HC := contains_any ((w.alloc (.cells #[v0, v1] 27)).alloc (.cells #[.int .i64 u] 3)) S n rb R X rs v0 v1 u (w.heap.size + 1) (by simp) (by
    have := blk_alloc_new (w.alloc (.cells #[v0, v1] 27)) (.cells #[.int .i64 u] 3)
    rw [nblk_alloc] at this
    rw [World.cell?, this]
    rfl) (hT.kept (fun k _ hk => hB.block k hk)) hrl
  clear hT
  generalize hz : rs.any (ofNode u) = z at HC ⊢
  clear hz
  have hmf := hmf
  go_enter Yba.func22, Yba.ntmps22
  go_wp2_with fail
  refine HC.mono ?_
  rintro e w' ⟨rfl, hb'⟩
  go_wp2
  go_ret
  exact ⟨rfl, hB.trans (hb'.mono hB.size)⟩

end Go.Proofs.Ybulkbsio
