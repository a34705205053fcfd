import Derived.Test.YbulkbsioCAddW
import Derived.Test.YbulkbsioCHolds
namespace Go.Proofs.Ybulkbsio
open Go.RowKit Go.Deep

/-- The operations, as the walk reads them. -/
structure COps (w : World) (va : Option Addr) (n ab ao : Nat) (A0 A1 A2 A3 : Nat → Int) : Prop where
  adr : 0 < n → va = some ⟨ab, ao, none⟩
  c0 : ∀ r, r < n → w.cell? ⟨ab, ao + r * 4, none⟩ = some (.int .u8 (A0 r))
  c1 : ∀ r, r < n → w.cell? ⟨ab, ao + r * 4 + 1, none⟩ = some (.int .u8 (A1 r))
  c2 : ∀ r, r < n → w.cell? ⟨ab, ao + r * 4 + 2, none⟩ = some (.int .u8 (A2 r))
  c3 : ∀ r, r < n → w.cell? ⟨ab, ao + r * 4 + 3, none⟩ = some (.int .u8 (A3 r))
  bd : ∀ r, r < n → (0 ≤ A0 r ∧ A0 r ≤ 255) ∧ (0 ≤ A1 r ∧ A1 r ≤ 255) ∧ (0 ≤ A2 r ∧ A2 r ≤ 255) ∧ (0 ≤ A3 r ∧ A3 r ≤ 255)

/-- The model says what the table says. -/
def Agree (n : Nat) (M : Nat → Bool) (X : Nat → Nat → Int) (rs : List Rn) : Prop :=
  ∀ a u t : Nat, a < n → u < n → 1 ≤ t → t ≤ 13 → (M (a * 56 + u * 14 + t) = true ↔ HP a u t X rs)

/-- The world while the table is built. -/
structure Cb (w wr : World) (mb tb n : Nat) (v1 : Value) (rb : Nat) (R : Nat → Nat) (X : Nat → Nat → Int) (rs : List Rn) (M : Nat → Bool) (m : Nat) : Prop where
  kept : Kept (fun k => k = mb) w wr
  tbl : TB wr (fun k => w.heap.size < k ∧ k < wr.heap.size) tb n (.slice (some ⟨rb, 0, none⟩) n n) v1 rb R X rs
  good : Good n rs
  len : rs.length ≤ m
  res : wr.heap[w.heap.size]? = some (.cells #[.slice none 0 0, .slice none 0 0] 27 (0, 0))
  mod : wr.rowIs mb 41 224 (fun q => .bool (M q))

theorem Cb.alloc {w wr : World} {mb tb n : Nat} {v1 : Value} {rb : Nat} {R : Nat → Nat} {X : Nat → Nat → Int} {rs : List Rn} {M : Nat → Bool} {m : Nat} (h : Cb w wr mb tb n v1 rb R X rs M m) (o : Obj) : Cb w (wr.alloc o) mb tb n v1 rb R X rs M m := by
  have hb : Below wr.heap.size wr (wr.alloc o) := (Below.refl _ _).alloc (Nat.le_refl _) _
  have ht := h.tbl.later hb
  have hs : (wr.alloc o).heap.size = wr.heap.size + 1 := by simp
  exact ⟨h.kept.alloc o, ⟨ht.tbl, ⟨h.tbl.stb.1, by have := h.tbl.stb.2; omega⟩, ht.tab.mono (fun k hk _ => ⟨hk.1, by omega⟩)⟩, h.good, h.len, (hb.block _ (Array.getElem?_eq_some_iff.1 h.res).1).trans h.res, h.mod.of_block (hb.block _ h.mod.lt)⟩

/-- Behind a mutator. -/
theorem Cb.left {w wr w' : World} {mb tb n : Nat} {v1 : Value} {rb : Nat} {R : Nat → Nat} {X : Nat → Nat → Int} {rs : List Rn} {M : Nat → Bool} {m d : Nat} {P : Nat → Nat → Int → Prop} (h : Cb w wr mb tb n v1 rb R X rs M m) (hmb : mb < w.heap.size)
    (hL : Left wr w' (fun k => w.heap.size < k ∧ k < wr.heap.size) tb n (.slice (some ⟨rb, 0, none⟩) n n) rb R X rs d P) (hd : d ≤ 1) : ∃ v2 X2 rs2, Cb w w' mb tb n v2 rb R X2 rs2 M (m + 1) ∧ ∀ a u t, a < n → u < n → (HP a u t X2 rs2 ↔ (HP a u t X rs ∨ P a u t)) := by
  obtain ⟨v2, X2, rs2, hK, hT, hg, hl, hh⟩ := hL
  have hs := hK.size
  have hs0 := h.kept.size
  refine ⟨v2, X2, rs2, ⟨h.kept.trans hK (fun i hi hi' => by omega), ⟨hT.tbl, ⟨h.tbl.stb.1, Nat.lt_of_lt_of_le h.tbl.stb.2 hs⟩, hT.tab.mono (fun k hk hlt => ?_)⟩, hg, by have := h.len; omega, ?_, ?_⟩, hh⟩
  · refine ⟨?_, hlt⟩
    rcases hk with hk | hk
    · exact hk.1
    · have := (Array.getElem?_eq_some_iff.1 h.res).1
      omega
  · rw [hK.block _ (Array.getElem?_eq_some_iff.1 h.res).1 (fun hx => by omega)]; exact h.res
  · exact h.mod.of_block (hK.block _ h.mod.lt (fun hx => by omega))

/-- A store into the model. -/
theorem Cb.put {w wr : World} {mb tb n : Nat} {v1 : Value} {rb : Nat} {R : Nat → Nat} {X : Nat → Nat → Int} {rs : List Rn} {M : Nat → Bool} {m : Nat} (h : Cb w wr mb tb n v1 rb R X rs M m) (hmb : mb < w.heap.size) (q : Nat) : Cb w (wr.setCell ⟨mb, q, none⟩ (.bool true)) mb tb n v1 rb R X rs (fun p => if p = q then true else M p) m := by
  have ho : ∀ k, k ≠ mb → (wr.setCell ⟨mb, q, none⟩ (.bool true)).heap[k]? = wr.heap[k]? := fun k hk => blk_setCell_other _ _ _ _ hk
  have hs : (wr.setCell ⟨mb, q, none⟩ (.bool true)).heap.size = wr.heap.size := nblk_setCell _ _ _
  refine ⟨h.kept.setCell (p := ⟨mb, q, none⟩) (fun _ => rfl) _, ⟨?_, ⟨h.tbl.stb.1, by rw [hs]; exact h.tbl.stb.2⟩, (h.tbl.tab.kept (fun k hk _ => ho k (fun e => by have := hk.1; omega))).mono (fun k hk _ => ⟨hk.1, by rw [hs]; exact hk.2⟩)⟩, h.good, h.len, ?_, ?_⟩
  · rw [ho _ (fun e => by have := h.tbl.stb.1; omega)]; exact h.tbl.tbl
  · rw [ho _ (by omega)]; exact h.res
  · exact (h.mod.set q _).congr (fun j _ => by by_cases e : j = q <;> simp [e])

theorem small_facts {k n : Nat} (h : k < n) (h4 : n ≤ 4) : wrap64 (1 + (k : Int)) = (k : Int) + 1 ∧ IntKind.i64.wrap ((k : Int) + 1 - 1) = (k : Int) ∧ (k : Int) < 4 ∧ (k : Int) < (n : Int) := by
  rw [wrap64, IntKind.wrap_i64]
  omega

theorem rem_nat {z : Int} {n : Nat} (h : 1 ≤ n) : ∃ k : Nat, z % (n : Int) = (k : Int) ∧ k < n := by
  have h0 := Int.emod_nonneg z (show (n : Int) ≠ 0 by omega)
  have h1 := Int.emod_lt_of_pos z (show 0 < (n : Int) by omega)
  exact ⟨(z % n).toNat, by omega, by omega⟩

theorem idx_lt {n a u t : Nat} (h4 : n ≤ 4) (ha : a < n) (hu : u < n) (ht : t ≤ 13) : a * 56 + u * 14 + t < 224 := by omega

theorem agree_add {n : Nat} (h4 : n ≤ 4) {M : Nat → Bool} {X X2 : Nat → Nat → Int} {rs rs2 : List Rn} (h : Agree n M X rs) {k u v : Nat} (hk : k < n) (hu : u < n) (hv : v ≤ 13) (hh : ∀ a u' t, a < n → u' < n → (HP a u' t X2 rs2 ↔ (HP a u' t X rs ∨ (a = k ∧ u' = u ∧ t = (v : Int))))) :
    Agree n (fun p => if p = k * 56 + u * 14 + v then true else M p) X2 rs2 := by
  intro a u' t ha hu' h1 h13
  rw [hh a u' t ha hu']
  by_cases e : a * 56 + u' * 14 + t = k * 56 + u * 14 + v
  · have e1 : a = k := by omega
    have e2 : u' = u := by omega
    have e3 : t = v := by omega
    subst e1 e2 e3
    simp
  · simp only [if_neg e]
    rw [h a u' t ha hu' h1 h13]
    constructor
    · exact .inl
    · rintro (h | ⟨rfl, rfl, h3⟩)
      · exact h
      · exfalso; omega

/-- The model while an extend is noted: the changes up to x are. -/
def AgreeX (n : Nat) (M : Nat → Bool) (X : Nat → Nat → Int) (rs : List Rn) (k u x : Nat) : Prop :=
  ∀ a u' t : Nat, a < n → u' < n → 1 ≤ t → t ≤ 13 → (M (a * 56 + u' * 14 + t) = true ↔ (HP a u' t X rs ∨ (a = k ∧ u' = u ∧ t < x)))

theorem agreeX_step {n : Nat} (h4 : n ≤ 4) {M : Nat → Bool} {X : Nat → Nat → Int} {rs : List Rn} {k u x : Nat} (hk : k < n) (hu : u < n) (hx : x ≤ 13) (h : AgreeX n M X rs k u x) : AgreeX n (fun p => if p = k * 56 + u * 14 + x then true else M p) X rs k u (x + 1) := by
  intro a u' t ha hu' h1 h13
  by_cases e : a * 56 + u' * 14 + t = k * 56 + u * 14 + x
  · have e1 : a = k := by omega
    have e2 : u' = u := by omega
    have e3 : t = x := by omega
    subst e1 e2 e3
    simp
  · simp only [if_neg e]
    rw [h a u' t ha hu' h1 h13]
    constructor
    · rintro (h | ⟨h1, h2, h3⟩)
      · exact .inl h
      · exact .inr ⟨h1, h2, by omega⟩
    · rintro (h | ⟨rfl, rfl, h3⟩)
      · exact .inl h
      · exact .inr ⟨rfl, rfl, by omega⟩

end Go.Proofs.Ybulkbsio
