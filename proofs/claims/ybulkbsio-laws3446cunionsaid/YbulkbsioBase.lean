/-
  THE TABLE IN MEMORY (replica.timeTable), said once for all walks of this seat.
-/
import Derived.Test.YbulkbsioRows
import Derived.WalkKit
import Derived.WalkSpells
import Derived.WalkLawsBesides
import Derived.Deep.LoopGhost
import Derived.Deep.OwnRows
import Derived.Deep.Light
import Derived.Deep.DeepCutAuto
import Derived.Deep.RegionWith
import Derived.Deep.RegionHeld3
import Derived.Deep.AppendLies
import Derived.Deep.QuietTactic
import Derived.BigQuiet
import Derived.Deep.DeepMust
import Derived.Deep.CutBlock
import Derived.Deep.RegionLaw
import Derived.Deep.DrawnRows
namespace Go.Proofs.Ybulkbsio
open Go.RowKit Go.Deep

theorem Yba.info24 : (Yba.prog.info? 24).map (fun i => (i.zero, i.size, i.bytes)) = some (some (.int .u64 0), 1, 8) := by kernel_rfl
theorem Yba.info32 : (Yba.prog.info? 32).map (fun i => (i.zero, i.size, i.bytes)) = some (some (.slice none 0 0), 1, 24) := by kernel_rfl
theorem Yba.info34 : (Yba.prog.info? 34).map (fun i => (i.zero, i.size, i.bytes)) = some (some (.agg #[.int .i64 0, .int .u64 0, .slice none 0 0]), 3, 40) := by kernel_rfl

/-! ### What a step may write: the blocks of S, and new ones -/

structure Kept (S : Nat → Prop) (w w' : World) : Prop where
  os : w'.os = w.os
  tape : w'.tape = w.tape
  output : w'.output = w.output
  size : w.heap.size ≤ w'.heap.size
  block : ∀ k, k < w.heap.size → ¬ S k → w'.heap[k]? = w.heap[k]?

theorem Kept.refl (S : Nat → Prop) (w : World) : Kept S w w := ⟨rfl, rfl, rfl, Nat.le_refl _, fun _ _ _ => rfl⟩

theorem Kept.trans {S T : Nat → Prop} {a b c : World} (h : Kept S a b) (k : Kept T b c) (hT : ∀ i, i < a.heap.size → T i → S i) : Kept S a c :=
  ⟨k.os.trans h.os, k.tape.trans h.tape, k.output.trans h.output, Nat.le_trans h.size k.size,
    fun i hi hs => (k.block i (Nat.lt_of_lt_of_le hi h.size) (fun t => hs (hT i hi t))).trans (h.block i hi hs)⟩

theorem Kept.mono {S T : Nat → Prop} {a b : World} (h : Kept S a b) (hT : ∀ i, i < a.heap.size → S i → T i) : Kept T a b :=
  ⟨h.os, h.tape, h.output, h.size, fun i hi ht => h.block i hi (fun s => ht (hT i hi s))⟩

theorem Kept.drew {S : Nat → Prop} {a b : World} (h : Kept S a b) : Kept S a b.drew := ⟨h.os, h.tape, h.output, h.size, h.block⟩

theorem Kept.alloc {S : Nat → Prop} {a b : World} (h : Kept S a b) (o : Obj) : Kept S a (b.alloc o) :=
  ⟨h.os, h.tape, h.output, by rw [nblk_alloc]; have := h.size; omega, fun k hk hs => by
    rw [blk_alloc_lt _ _ _ (by have := h.size; omega)]; exact h.block k hk hs⟩

theorem Kept.setCell {S : Nat → Prop} {a b : World} (h : Kept S a b) {p : Addr} (hp : p.block < a.heap.size → S p.block) (v : Value) : Kept S a (b.setCell p v) :=
  ⟨h.os, h.tape, h.output, by rw [nblk_setCell]; exact h.size, fun k hk hs => by
    rw [blk_setCell_other _ _ _ _ (fun e => hs (by subst e; exact hp hk))]; exact h.block k hk hs⟩

theorem Kept.below {S : Nat → Prop} {B : Nat} {a b : World} (h : Kept S a b) (hB : B ≤ a.heap.size) (hS : ∀ k, k < B → ¬ S k) : Below B a b :=
  ⟨h.os, h.tape, h.output, h.size, fun k hk => h.block k (by omega) (hS k hk)⟩

theorem Kept.of_below {S : Nat → Prop} {a b : World} (h : Below a.heap.size a b) : Kept S a b :=
  ⟨h.os, h.tape, h.output, h.size, fun k hk _ => h.block k hk⟩

/-! ### The table -/

/-- A run: its node, where it starts, the block of what each node holds of it, and that block's numbers. -/
structure Rn where
  node : Int
  frm : Int
  blk : Nat
  held : Nat → Int

def Rn.cells (n : Nat) (r : Rn) : List Value := [.int .i64 r.node, .int .u64 r.frm, .slice (some ⟨r.blk, 0, none⟩) n n]

structure Tab (w : World) (S : Nat → Prop) (n : Nat) (v0 v1 : Value) (rb : Nat) (R : Nat → Nat) (X : Nat → Nat → Int) (rs : List Rn) : Prop where
  hv0 : v0 = .slice (some ⟨rb, 0, none⟩) n n
  srb : S rb
  top : w.rowIs rb 32 n (fun i => .slice (some ⟨R i, 0, none⟩) n n)
  row : ∀ i, i < n → S (R i) ∧ w.rowIs (R i) 24 n (fun j => .int .u64 (X i j))
  inj : ∀ i j, i < n → j < n → R i = R j → i = j
  own : w.ownsRow 0 34 3 v1 rs.length (rs.flatMap (Rn.cells n))
  sown : ∀ g, v1.ownBlock = some g → S g
  held : ∀ r, r ∈ rs → S r.blk ∧ w.rowIs r.blk 24 n (fun j => .int .u64 (r.held j))
  apart : ∀ i r, i < n → r ∈ rs → R i ≠ r.blk
  nodup : (rs.map Rn.blk).Nodup

theorem flat_len (n : Nat) (rs : List Rn) : (rs.flatMap (Rn.cells n)).length = rs.length * 3 := by
  induction rs with
  | nil => rfl
  | cons r rs ih => simp only [List.flatMap_cons, List.length_append, ih, Rn.cells, List.length_cons, List.length_nil]; omega

theorem flat_get (n : Nat) (rs : List Rn) (i c : Nat) (r : Rn) (hr : rs[i]? = some r) (hc : c < 3) : (rs.flatMap (Rn.cells n))[i * 3 + c]? = (Rn.cells n r)[c]? := by
  induction rs generalizing i with
  | nil => simp at hr
  | cons x xs ih =>
    cases i with
    | zero =>
      simp only [List.getElem?_cons_zero, Option.some.injEq] at hr
      subst hr
      rw [List.flatMap_cons, List.getElem?_append_left (by simp [Rn.cells]; omega)]
      simp
    | succ k =>
      simp only [List.getElem?_cons_succ] at hr
      rw [List.flatMap_cons, List.getElem?_append_right (by simp [Rn.cells]; omega)]
      rw [← ih k hr]
      congr 1
      simp [Rn.cells]; omega

/-- The runs' slice, as the walk reads it. -/
theorem Tab.slice {w : World} {S : Nat → Prop} {n : Nat} {v0 v1 : Value} {rb : Nat} {R : Nat → Nat} {X : Nat → Nat → Int} {rs : List Rn} (h : Tab w S n v0 v1 rb R X rs) :
    ∃ va cap, v1 = .slice va rs.length cap ∧ rs.length ≤ cap ∧ cap ≤ maxLen ∧ (0 < rs.length → ∃ g, va = some ⟨g, 0, none⟩ ∧ S g ∧ g < w.heap.size ∧
      (∀ i r, rs[i]? = some r → w.cell? ⟨g, i * 3, none⟩ = some (.int .i64 r.node) ∧ w.cell? ⟨g, i * 3 + 1, none⟩ = some (.int .u64 r.frm) ∧ w.cell? ⟨g, i * 3 + 2, none⟩ = some (.slice (some ⟨r.blk, 0, none⟩) n n)) ∧ ∀ o, w.frozen? ⟨g, o, none⟩ = false) := by
  obtain ⟨hl, hv⟩ := h.own
  rcases hv with ⟨rfl, h0⟩ | ⟨g, cap, cur, rfl, _, hh, hc, hm, hs, ht⟩
  · exact ⟨none, 0, by rw [h0], by omega, by simp, fun hp => by omega⟩
  · refine ⟨_, cap, rfl, hc, hm, fun _ => ⟨g, rfl, h.sown g rfl, (Array.getElem?_eq_some_iff.1 hh).1, fun i r hr => ?_, fun o => by simp [World.frozen?, hh]⟩⟩
    have hi : i < rs.length := (List.getElem?_eq_some_iff.1 hr).1
    have key : ∀ c, c < 3 → w.cell? ⟨g, i * 3 + c, none⟩ = (Rn.cells n r)[c]? := fun c hc3 => by
      rw [← flat_get n rs i c r hr hc3, ← ht, List.getElem?_take, if_pos (by omega)]
      simp [World.cell?, hh]
    exact ⟨by simpa [Rn.cells] using key 0 (by omega), by simpa [Rn.cells] using key 1 (by omega), by simpa [Rn.cells] using key 2 (by omega)⟩

/-- A table stays while its own blocks stay. -/
theorem Tab.kept {w w' : World} {S : Nat → Prop} {n : Nat} {v0 v1 : Value} {rb : Nat} {R : Nat → Nat} {X : Nat → Nat → Int} {rs : List Rn} (h : Tab w S n v0 v1 rb R X rs)
    (hk : ∀ k, S k → k < w.heap.size → w'.heap[k]? = w.heap[k]?) : Tab w' S n v0 v1 rb R X rs where
  hv0 := h.hv0
  srb := h.srb
  top := h.top.of_block (hk _ h.srb h.top.lt)
  row := fun i hi => ⟨(h.row i hi).1, (h.row i hi).2.of_block (hk _ (h.row i hi).1 (h.row i hi).2.lt)⟩
  inj := h.inj
  own := by
    refine ⟨h.own.1, ?_⟩
    rcases h.own.2 with hn | ⟨g, cap, cur, hv, hb, hgg, rest⟩
    · exact .inl hn
    · refine .inr ⟨g, cap, cur, hv, hb, ?_, rest⟩
      rw [hk g (h.sown g (by rw [hv]; rfl)) (Array.getElem?_eq_some_iff.1 hgg).1]
      exact hgg
  sown := h.sown
  held := fun r hr => ⟨(h.held r hr).1, (h.held r hr).2.of_block (hk _ (h.held r hr).1 (h.held r hr).2.lt)⟩
  apart := h.apart
  nodup := h.nodup

theorem Tab.mono {w : World} {S T : Nat → Prop} {n : Nat} {v0 v1 : Value} {rb : Nat} {R : Nat → Nat} {X : Nat → Nat → Int} {rs : List Rn} (h : Tab w S n v0 v1 rb R X rs)
    (hT : ∀ k, S k → k < w.heap.size → T k) : Tab w T n v0 v1 rb R X rs where
  hv0 := h.hv0
  srb := hT _ h.srb h.top.lt
  top := h.top
  row := fun i hi => ⟨hT _ (h.row i hi).1 (h.row i hi).2.lt, (h.row i hi).2⟩
  inj := h.inj
  own := h.own
  sown := fun g hg => by
    refine hT g (h.sown g hg) ?_
    rcases h.own.2 with ⟨hv, _⟩ | ⟨g', cap, cur, hv, hb, hgg, rest⟩
    · rw [hv] at hg; simp [Value.ownBlock] at hg
    · rw [hv] at hg; simp [Value.ownBlock] at hg; subst hg; exact (Array.getElem?_eq_some_iff.1 hgg).1
  held := fun r hr => ⟨hT _ (h.held r hr).1 (h.held r hr).2.lt, (h.held r hr).2⟩
  apart := h.apart
  nodup := h.nodup

/-- The block of the runs' slice is none of the numbers' blocks. -/
theorem Tab.own_ne {w : World} {S : Nat → Prop} {n : Nat} {v0 v1 : Value} {rb : Nat} {R : Nat → Nat} {X : Nat → Nat → Int} {rs : List Rn} (h : Tab w S n v0 v1 rb R X rs)
    {b m : Nat} {f : Nat → Value} (hb : w.rowIs b 24 m f) : v1.ownBlock ≠ some b := by
  intro e
  rcases h.own.2 with ⟨hv, _⟩ | ⟨g', cap, cur, hv, hb', hgg, rest⟩
  · rw [hv] at e; simp [Value.ownBlock] at e
  · rw [hv] at e
    simp [Value.ownBlock] at e
    subst e
    obtain ⟨c, hc, _⟩ := hb
    rw [hgg] at hc
    simp at hc

theorem Tab.rb_ne {w : World} {S : Nat → Prop} {n : Nat} {v0 v1 : Value} {rb : Nat} {R : Nat → Nat} {X : Nat → Nat → Int} {rs : List Rn} (h : Tab w S n v0 v1 rb R X rs)
    {b m : Nat} {f : Nat → Value} (hb : w.rowIs b 24 m f) : rb ≠ b := by
  intro e
  subst e
  obtain ⟨c, hc, _⟩ := hb
  obtain ⟨c', hc', _⟩ := h.top
  rw [hc] at hc'
  simp at hc'

theorem ownsRow_setCell_ne {w : World} {e : TypeId} {size : Nat} {v : Value} {m : Nat} {xs : List Value} (h : w.ownsRow 0 e size v m xs) {a : Addr} (ha : v.ownBlock ≠ some a.block) (u : Value) : (w.setCell a u).ownsRow 0 e size v m xs := by
  obtain ⟨h1, h2⟩ := h
  refine ⟨h1, ?_⟩
  rcases h2 with h2 | ⟨g, cap, cur, hv, hg, hh, r⟩
  · exact Or.inl h2
  · exact Or.inr ⟨g, cap, cur, hv, hg, by rw [blk_setCell_other _ _ _ _ (fun e => ha (by rw [hv, ← e]; rfl))]; exact hh, r⟩

/-- A store into row i. -/
theorem Tab.setRow {w : World} {S : Nat → Prop} {n : Nat} {v0 v1 : Value} {rb : Nat} {R : Nat → Nat} {X : Nat → Nat → Int} {rs : List Rn} (h : Tab w S n v0 v1 rb R X rs)
    {i : Nat} (hi : i < n) (j : Nat) (v : Int) : Tab (w.setCell ⟨R i, j, none⟩ (.int .u64 v)) S n v0 v1 rb R (fun a b => if a = i ∧ b = j then v else X a b) rs where
  hv0 := h.hv0
  srb := h.srb
  top := h.top.setOther (h.rb_ne (h.row i hi).2) _
  row := fun a ha => by
    refine ⟨(h.row a ha).1, ?_⟩
    by_cases e : a = i
    · subst e
      exact ((h.row a ha).2.set j _).congr (fun b _ => by by_cases e' : b = j <;> simp [e'])
    · exact ((h.row a ha).2.setOther (fun e' => e (h.inj a i ha hi e')) _).congr (fun b _ => by simp [e])
  inj := h.inj
  own := ownsRow_setCell_ne h.own (h.own_ne (h.row i hi).2) _
  sown := h.sown
  held := fun r hr => ⟨(h.held r hr).1, (h.held r hr).2.setOther (fun e => h.apart i r hi hr e.symm) _⟩
  apart := h.apart
  nodup := h.nodup

def Rn.put (r : Rn) (j : Nat) (v : Int) : Rn := ⟨r.node, r.frm, r.blk, fun b => if b = j then v else r.held b⟩

theorem flat_set (n : Nat) (rs : List Rn) (k : Nat) (r r' : Rn) (hr : rs[k]? = some r) (hc : Rn.cells n r' = Rn.cells n r) : (rs.set k r').flatMap (Rn.cells n) = rs.flatMap (Rn.cells n) := by
  induction rs generalizing k with
  | nil => simp at hr
  | cons x xs ih =>
    cases k with
    | zero =>
      simp only [List.getElem?_cons_zero, Option.some.injEq] at hr
      subst hr
      simp [hc]
    | succ k =>
      simp only [List.getElem?_cons_succ] at hr
      simp [ih k hr]

theorem map_set_same {α β : Type} (f : α → β) (rs : List α) (k : Nat) (r r' : α) (hr : rs[k]? = some r) (hc : f r' = f r) : (rs.set k r').map f = rs.map f := by
  induction rs generalizing k with
  | nil => simp at hr
  | cons x xs ih =>
    cases k with
    | zero =>
      simp only [List.getElem?_cons_zero, Option.some.injEq] at hr
      subst hr
      simp [hc]
    | succ k =>
      simp only [List.getElem?_cons_succ] at hr
      simp [ih k hr]

/-- Two runs of one block are one run's place. -/
theorem blk_inj {rs : List Rn} (h : (rs.map Rn.blk).Nodup) {a b : Nat} {x y : Rn} (ha : rs[a]? = some x) (hb : rs[b]? = some y) (e : x.blk = y.blk) : a = b := by
  have h1 : (rs.map Rn.blk)[a]? = some x.blk := by simp [ha]
  have h2 : (rs.map Rn.blk)[b]? = some x.blk := by simp [hb, e]
  have hla : a < (rs.map Rn.blk).length := (List.getElem?_eq_some_iff.1 h1).1
  exact (List.getElem?_inj hla h).1 (h1.trans h2.symm)

/-- A store into what run k holds. -/
theorem Tab.setHeld {w : World} {S : Nat → Prop} {n : Nat} {v0 v1 : Value} {rb : Nat} {R : Nat → Nat} {X : Nat → Nat → Int} {rs : List Rn} (h : Tab w S n v0 v1 rb R X rs)
    {k : Nat} {r : Rn} (hr : rs[k]? = some r) (j : Nat) (v : Int) : Tab (w.setCell ⟨r.blk, j, none⟩ (.int .u64 v)) S n v0 v1 rb R X (rs.set k (r.put j v)) := by
  have hm : r ∈ rs := List.mem_of_getElem? hr
  have hrow := (h.held r hm).2
  have hk : k < rs.length := (List.getElem?_eq_some_iff.1 hr).1
  refine ⟨h.hv0, h.srb, h.top.setOther (h.rb_ne hrow) _, fun a ha => ⟨(h.row a ha).1, (h.row a ha).2.setOther (h.apart a r ha hm) _⟩, h.inj, ?_, h.sown, fun x hx => ?_, fun a x ha hx => ?_, ?_⟩
  · rw [flat_set n rs k r (r.put j v) hr rfl, List.length_set]
    exact ownsRow_setCell_ne h.own (h.own_ne hrow) _
  · obtain ⟨a, hax⟩ := List.mem_iff_getElem?.1 hx
    rw [List.getElem?_set] at hax
    by_cases e : k = a
    · subst e
      rw [if_pos rfl, if_pos hk] at hax
      simp only [Option.some.injEq] at hax
      subst hax
      exact ⟨(h.held r hm).1, (hrow.set j _).congr (fun b _ => by by_cases e' : b = j <;> simp [Rn.put, e'])⟩
    · rw [if_neg e] at hax
      have hxm : x ∈ rs := List.mem_of_getElem? hax
      exact ⟨(h.held x hxm).1, (h.held x hxm).2.setOther (fun e' => e (blk_inj h.nodup hr hax e'.symm)) _⟩
  · obtain ⟨a', hax⟩ := List.mem_iff_getElem?.1 hx
    rw [List.getElem?_set] at hax
    by_cases e : k = a'
    · subst e
      rw [if_pos rfl, if_pos hk] at hax
      simp only [Option.some.injEq] at hax
      subst hax
      exact h.apart a r ha hm
    · rw [if_neg e] at hax
      exact h.apart a x ha (List.mem_of_getElem? hax)
  · rw [map_set_same Rn.blk rs k r (r.put j v) hr rfl]
    exact h.nodup

theorem Tab.drew {w : World} {S : Nat → Prop} {n : Nat} {v0 v1 : Value} {rb : Nat} {R : Nat → Nat} {X : Nat → Nat → Int} {rs : List Rn} (h : Tab w S n v0 v1 rb R X rs) : Tab w.drew S n v0 v1 rb R X rs := h.kept (fun _ _ _ => rfl)

theorem Tab.alloc {w : World} {S : Nat → Prop} {n : Nat} {v0 v1 : Value} {rb : Nat} {R : Nat → Nat} {X : Nat → Nat → Int} {rs : List Rn} (h : Tab w S n v0 v1 rb R X rs) (o : Obj) : Tab (w.alloc o) S n v0 v1 rb R X rs :=
  h.kept (fun _ _ hk => blk_alloc_lt _ _ _ hk)

theorem ne_of_types {w : World} {a b : Nat} {c : Array Value} {t m : Nat} {z : Nat × Nat} {f : Nat → Value} (ha : w.heap[a]? = some (.cells c t z)) (hb : w.rowIs b 24 m f) (ht : t ≠ 24) : a ≠ b := by
  intro e
  obtain ⟨c', hc, _⟩ := hb
  rw [← e, ha] at hc
  simp at hc
  exact ht hc.2.1

theorem Tab.congrX {w : World} {S : Nat → Prop} {n : Nat} {v0 v1 : Value} {rb : Nat} {R : Nat → Nat} {X Y : Nat → Nat → Int} {rs : List Rn} (h : Tab w S n v0 v1 rb R X rs) (e : ∀ i j, i < n → j < n → X i j = Y i j) : Tab w S n v0 v1 rb R Y rs :=
  ⟨h.hv0, h.srb, h.top, fun i hi => ⟨(h.row i hi).1, (h.row i hi).2.congr (fun j hj => by rw [e i j hi hj])⟩, h.inj, h.own, h.sown, h.held, h.apart, h.nodup⟩

theorem own_ne_block {w : World} {b e size n b' t : Nat} {v : Value} {xs : List Value} {c : Array Value} {z : Nat × Nat} (h : w.ownsRow b e size v n xs) (hb : w.heap[b']? = some (.cells c t z)) (ht : t ≠ e) : v.ownBlock ≠ some b' := by
  intro he
  rcases h.2 with ⟨hv, _⟩ | ⟨g', cap, cur, hv, _, hgg, _⟩
  · rw [hv] at he; simp [Value.ownBlock] at he
  · rw [hv] at he
    simp [Value.ownBlock] at he
    subst he
    rw [hgg] at hb
    simp at hb
    exact ht hb.2.1.symm

theorem Tab.setFar {w : World} {S : Nat → Prop} {n : Nat} {v0 v1 : Value} {rb : Nat} {R : Nat → Nat} {X : Nat → Nat → Int} {rs : List Rn} (h : Tab w S n v0 v1 rb R X rs) {a : Addr} {c : Array Value} (ha : w.heap[a.block]? = some (.cells c 27 (0, 0))) (v : Value) : Tab (w.setCell a v) S n v0 v1 rb R X rs where
  hv0 := h.hv0
  srb := h.srb
  top := h.top.setOther (fun e => by
    obtain ⟨c', hc, _⟩ := h.top
    rw [e, ha] at hc
    simp at hc) _
  row := fun i hi => ⟨(h.row i hi).1, (h.row i hi).2.setOther (fun e => ne_of_types ha (h.row i hi).2 (by decide) e.symm) _⟩
  inj := h.inj
  own := ownsRow_setCell_ne h.own (own_ne_block h.own ha (by decide)) _
  sown := h.sown
  held := fun r hr => ⟨(h.held r hr).1, (h.held r hr).2.setOther (fun e => ne_of_types ha (h.held r hr).2 (by decide) e.symm) _⟩
  apart := h.apart
  nodup := h.nodup

end Go.Proofs.Ybulkbsio
