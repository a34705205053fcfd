/-
  THE TALLY IN MEMORY (boundring.loadTally): a map from capacities to counts, each count's block and its row; and what its map answers.
-/
import Derived.Test.YbulkbsjcFuller
import Derived.Maps.OwnOps
import Derived.Maps.OwnSet
import Derived.Maps.RangeWalk
namespace Go.Proofs.Ybulkbsjc
open Go.RowKit Go.Deep Go.Maps

theorem law3 : Keyed Yba.prog 3 := int_keyed Yba.underlying3
theorem zero44 (w : World) : (zeroValue 44).run Yba.prog w = .ok (.pointer none) w := by kernel_rfl

/-! ### A map of pointers -/

/-- How a pointer to a block's start reads: as the block's number. -/
def ptrE : Value → Option (DataW Unit × List MemPlace)
  | .pointer none => some (.lit (.int .i64 (-1)), [])
  | .pointer (some ⟨b, 0, none⟩) => some (.lit (.int .i64 b), [])
  | _ => none

def ptrV (o : Option Nat) : Value := .pointer (o.map fun b => ⟨b, 0, none⟩)
def ptrN (o : Option Nat) : Int := match o with | none => -1 | some b => b

theorem ptrE_mk (o : Option Nat) : ptrE (ptrV o) = some (.lit (.int .i64 (ptrN o)), []) := by cases o <;> rfl

theorem ptrE_inv {v : Value} {z : DataW Unit × List MemPlace} (h : ptrE v = some z) : ∃ o, v = ptrV o ∧ z = (.lit (.int .i64 (ptrN o)), []) := by
  unfold ptrE at h
  split at h
  · cases h; exact ⟨none, rfl, rfl⟩
  · cases h; rename_i b; exact ⟨some b, rfl, rfl⟩
  · cases h

theorem ptrN_inj {o o' : Option Nat} (h : ptrN o = ptrN o') : o = o' := by
  cases o <;> cases o' <;> simp [ptrN] at h ⊢ <;> omega

/-- Block bm is a map of at most k entries: capacity c leads to M c. -/
def MapIs (w : World) (bm k : Nat) (M : Nat → Option Nat) : Prop :=
  ∃ D : DataW Unit, w.ownsMap Yba.prog 3 ptrE bm k D ∧ (∀ c : Nat, D.atKey (.int .i64 c) (.lit (.int .i64 (-1))) = .lit (.int .i64 (ptrN (M c)))) ∧
    (∀ c : Nat, Maps.has D (.int .i64 c) = (M c).isSome) ∧ ∀ kl, Maps.has D kl = true → ∃ c : Nat, kl = .int .i64 c

theorem MapIs.of_block {w w' : World} {bm k : Nat} {M : Nat → Option Nat} (h : MapIs w bm k M) (hb : w'.heap[bm]? = w.heap[bm]?) : MapIs w' bm k M := by
  obtain ⟨D, ⟨es, clock, h1, h2⟩, h3⟩ := h
  exact ⟨D, ⟨es, clock, hb.trans h1, h2⟩, h3⟩

theorem MapIs.lt {w : World} {bm k : Nat} {M : Nat → Option Nat} (h : MapIs w bm k M) : bm < w.heap.size := by
  obtain ⟨D, h1, _⟩ := h
  exact h1.lt

theorem MapIs.congr {w : World} {bm k : Nat} {M M' : Nat → Option Nat} (h : MapIs w bm k M) (hM : ∀ c, M c = M' c) : MapIs w bm k M' := by
  rw [← (funext hM : M = M')]; exact h

theorem MapIs.mono {w : World} {bm k k' : Nat} {M : Nat → Option Nat} (h : MapIs w bm k M) (hk : k ≤ k') : MapIs w bm k' M := by
  obtain ⟨D, h1, h3⟩ := h
  exact ⟨D, h1.mono hk, h3⟩

/-- A map's block is no row. -/
theorem MapIs.ne_row {w : World} {bm k : Nat} {M : Nat → Option Nat} (h : MapIs w bm k M) {b n : Nat} {t : TypeId} {f : Nat → Value} (hr : w.rowIs b t n f) : bm ≠ b := by
  rintro rfl
  obtain ⟨D, ⟨es, clock, h1, _⟩, _⟩ := h
  obtain ⟨c, hc, _⟩ := hr
  rw [h1] at hc
  cases hc

theorem MapIs.ne_own {w : World} {bm k : Nat} {M : Nat → Option Nat} (h : MapIs w bm k M) {lo n s : Nat} {t : TypeId} {v : Value} {xs : List Value} (hr : w.ownsRow lo t s v n xs) : v.ownBlock ≠ some bm := by
  obtain ⟨D, ⟨es, clock, h1, _⟩, _⟩ := h
  rcases hr.2 with ⟨rfl, _⟩ | ⟨g, cap, cur, rfl, _, hg, _⟩
  · simp [Value.ownBlock]
  · simp only [Value.ownBlock, ne_eq, Option.some.injEq]
    rintro rfl
    rw [h1] at hg
    cases hg

theorem MapIs.made (w : World) : MapIs (w.alloc (.map #[] 0)) w.heap.size 0 (fun _ => none) :=
  ⟨_, World.ownsMap_made w _ _ _, fun _ => rfl, fun _ => rfl, fun _ h => by cases h⟩

theorem wf_small {c : Nat} (h : c ≤ 1000) : (Lit.int .i64 (c : Int)).wf = true := WalkArith.wf_i64 (by omega)

theorem MapIs.look {w : World} {bm k : Nat} {M : Nat → Option Nat} (h : MapIs w bm k M) {c : Nat} (hc : c ≤ 1000) :
    (Instr.lookup 29 (.map (some bm)) (.int .i64 c) false).run Yba.prog w = .ok (ptrV (M c)) w := by
  obtain ⟨D, h1, h2, _⟩ := h
  obtain ⟨v, ps, hrun, hv⟩ := h1.lookup law3 Yba.underlying29 (zero44 w) (ptrE_mk none) (keyOf_int_mk Yba.underlying3 (wf_small hc))
  obtain ⟨o, rfl, ho⟩ := ptrE_inv hv
  have : ptrN o = ptrN (M c) := by
    have h3 : D.atKey (.int .i64 c) (.lit (.int .i64 (-1))) = .lit (.int .i64 (ptrN o)) := (Prod.ext_iff.1 ho).1
    rw [h2 c] at h3
    injection h3 with h3
    injection h3 with h3 h4
    exact h4.symm
  rw [hrun, ptrN_inj this]

theorem key_ne {c c' : Nat} (h : c' ≠ c) : (Lit.int .i64 (c' : Int)) ≠ .int .i64 c := by
  intro e; injection e with _ e; omega

theorem MapIs.put {w' : World} {bm k : Nat} {M : Nat → Option Nat} {D : DataW Unit} {c g : Nat}
    (hD : IsMap D) (h2 : ∀ c : Nat, D.atKey (.int .i64 c) (.lit (.int .i64 (-1))) = .lit (.int .i64 (ptrN (M c)))) (h3 : ∀ c : Nat, Maps.has D (.int .i64 c) = (M c).isSome) (h4 : ∀ kl, Maps.has D kl = true → ∃ c : Nat, kl = .int .i64 c)
    (h : w'.ownsMap Yba.prog 3 ptrE bm k (D.put (.int .i64 c) (.lit (.int .i64 g)))) : MapIs w' bm k (fun x => if x = c then some g else M x) := by
  have hk : WideAt.IsKeyLit (Lit.int .i64 (c : Int)) := trivial
  refine ⟨_, h, fun x => ?_, fun x => ?_, fun kl hl => ?_⟩
  · by_cases e : x = c
    · subst e; rw [atKey_put_same hD hk]; simp [ptrN]
    · rw [atKey_put_other (key_ne e), h2]; simp [e]
  · by_cases e : x = c
    · subst e; rw [has_put_same hD hk]; simp
    · rw [has_put_other (key_ne e), h3]; simp [e]
  · by_cases e : kl = .int .i64 c
    · exact ⟨c, e⟩
    · rw [has_put_other e] at hl
      exact h4 kl hl

theorem MapIs.del {w' : World} {bm k : Nat} {M : Nat → Option Nat} {D : DataW Unit} {c : Nat}
    (h2 : ∀ c : Nat, D.atKey (.int .i64 c) (.lit (.int .i64 (-1))) = .lit (.int .i64 (ptrN (M c)))) (h3 : ∀ c : Nat, Maps.has D (.int .i64 c) = (M c).isSome) (h4 : ∀ kl, Maps.has D kl = true → ∃ c : Nat, kl = .int .i64 c)
    (h : w'.ownsMap Yba.prog 3 ptrE bm k (D.del (.int .i64 c))) : MapIs w' bm k (fun x => if x = c then none else M x) := by
  refine ⟨_, h, fun x => ?_, fun x => ?_, fun kl hl => ?_⟩
  · by_cases e : x = c
    · subst e; rw [atKey_del_same]; simp [ptrN]
    · rw [atKey_del_other (key_ne e), h2]; simp [e]
  · by_cases e : x = c
    · subst e; rw [has_del_same]; simp
    · rw [has_del_other (key_ne e), h3]; simp [e]
  · by_cases e : kl = .int .i64 c
    · exact ⟨c, e⟩
    · rw [has_del_other e] at hl
      exact h4 kl hl

section
variable (w : World) {ops : Array Oper} {rest : List Oper} {o : Oper} {a : Act} {Q : Exit → Act → World → Prop}

/-- 'm[c] = p'. -/
theorem wpList_store_M (hg : o.guard = none) (m x v : Operand) (hop : o.op = Op.mapUpdate 29 m x v) (bm k : Nat) (M : Nat → Option Nat) (c g : Nat)
    (hm : a.eval m = .map (some bm)) (h : MapIs w bm k M) (hk : k ≤ 5000) (hc : c ≤ 1000) (hx : a.eval x = .int .i64 c) (hv : a.eval v = .pointer (some ⟨g, 0, none⟩))
    (hK : ∀ w', MapIs w' bm (k + 1) (fun x => if x = c then some g else M x) → w.grownBy w' (some bm) → wpList Yba.prog ops Q rest (a.put o.dst undef) w') :
    wpList Yba.prog ops Q (o :: rest) a w := by
  obtain ⟨D, h1, h2, h3, h4⟩ := h
  exact wpList_mapUpdate_own w hg m x v 29 hop 3 44 law3 Yba.underlying29 ptrE bm k D hm h1 (by unfold maxLen; omega) _ _ _ hx hv (keyOf_int_mk Yba.underlying3 (wf_small hc)) _ _ (ptrE_mk (some g))
    fun w' r1 r2 => hK w' (MapIs.put h1.isMap h2 h3 h4 r1) r2

/-- 'delete(m, c)'. -/
theorem wpList_delete_M (hg : o.guard = none) (m x : Operand) (hop : o.op = Op.call { callee := Callee.builtin Builtin.delete, args := #[m, x], argTypes := #[29, 3] }) (bm k : Nat) (M : Nat → Option Nat) (c : Nat)
    (hm : a.eval m = .map (some bm)) (h : MapIs w bm k M) (hc : c ≤ 1000) (hx : a.eval x = .int .i64 c)
    (hK : ∀ w', MapIs w' bm k (fun x => if x = c then none else M x) → w.grownBy w' (some bm) → wpList Yba.prog ops Q rest (a.put o.dst (.tuple #[])) w') :
    wpList Yba.prog ops Q (o :: rest) a w := by
  obtain ⟨D, h1, h2, h3, h4⟩ := h
  exact wpList_delete_own w hg m x 29 3 hop 44 law3 Yba.underlying29 ptrE bm k D hm h1 _ _ hx (keyOf_int_mk Yba.underlying3 (wf_small hc))
    fun w' r1 r2 => hK w' (MapIs.del h2 h3 h4 r1) r2.grown
end

/-! ### The counts -/

def sumTo : Nat → (Nat → Nat) → Nat
  | 0, _ => 0
  | n + 1, T => sumTo n T + T n

def bins (T : Nat → Nat) : Nat := sumTo 16 T

theorem le_sumTo (T : Nat → Nat) (l : Nat) : ∀ n, l < n → T l ≤ sumTo n T
  | 0, h => by omega
  | n + 1, h => by
    unfold sumTo
    by_cases e : l = n
    · subst e; omega
    · have := le_sumTo T l n (by omega); omega

theorem le_bins (T : Nat → Nat) {l : Nat} (h : l < 16) : T l ≤ bins T := le_sumTo T l 16 h

theorem sumTo_congr {T T' : Nat → Nat} : ∀ n, (∀ l, l < n → T l = T' l) → sumTo n T = sumTo n T'
  | 0, _ => rfl
  | n + 1, h => by unfold sumTo; rw [sumTo_congr n (fun l hl => h l (by omega)), h n (by omega)]

theorem sumTo_set (T : Nat → Nat) (l x : Nat) : ∀ n, l < n → sumTo n (fun j => if j = l then x else T j) + T l = sumTo n T + x
  | 0, h => by omega
  | n + 1, h => by
    unfold sumTo
    by_cases e : l = n
    · subst e
      rw [sumTo_congr (T' := T) l (fun j hj => by simp; omega)]
      simp; omega
    · have := sumTo_set T l x n (by omega)
      have e' : (if n = l then x else T n) = T n := if_neg (by omega)
      simp only [e']
      omega

theorem bins_set (T : Nat → Nat) {l : Nat} (h : l < 16) (x : Nat) : bins (fun j => if j = l then x else T j) + T l = bins T + x := sumTo_set T l x 16 h

theorem sumTo_pos (T : Nat → Nat) : ∀ n, 0 < sumTo n T → ∃ l, l < n ∧ 0 < T l
  | 0, h => by simp [sumTo] at h
  | n + 1, h => by
    unfold sumTo at h
    by_cases e : 0 < T n
    · exact ⟨n, by omega, e⟩
    · obtain ⟨l, hl, h'⟩ := sumTo_pos T n (by omega)
      exact ⟨l, by omega, h'⟩

def lcRow (s : Nat) (v : Value) (top : Nat) (j : Nat) : Value := if j = 0 then .int .i64 s else if j = 1 then v else .int .i64 top
def nums (T : Nat → Nat) (n : Nat) : List Value := (List.range n).map (fun l => .int .i64 (T l))

/-- One capacity's count. -/
structure Lc (w : World) (lo : Nat) (T : Nat → Nat) (g : Nat) (v : Value) (n tp : Nat) : Prop where
  glo : lo ≤ g
  row : w.rowIs g 47 3 (lcRow (bins T) v tp)
  own : w.ownsRow lo 3 1 v n (nums T n)
  n16 : n ≤ 16
  top : tp < n
  pos : 0 < T tp
  over : ∀ l, tp < l → l < 16 → T l = 0

theorem Lc.of_blocks {w w' : World} {lo : Nat} {T : Nat → Nat} {g : Nat} {v : Value} {n tp : Nat} (h : Lc w lo T g v n tp) (h1 : w'.heap[g]? = w.heap[g]?) (h2 : ∀ b, v.ownBlock = some b → w'.heap[b]? = w.heap[b]?) : Lc w' lo T g v n tp where
  glo := h.glo
  row := h.row.of_block h1
  own := by
    refine ⟨h.own.1, ?_⟩
    rcases h.own.2 with hn | ⟨g', cap, cur, hv, hb, hgg, rest⟩
    · exact .inl hn
    · exact .inr ⟨g', cap, cur, hv, hb, (h2 g' (by rw [hv]; rfl)).trans hgg, rest⟩
  n16 := h.n16
  top := h.top
  pos := h.pos
  over := h.over

theorem Lc.own_lt {w : World} {lo : Nat} {T : Nat → Nat} {g : Nat} {v : Value} {n tp : Nat} (h : Lc w lo T g v n tp) : ∀ b, v.ownBlock = some b → b < w.heap.size := fun b hb => (h.own.lt b hb).2

structure Tal (w : World) (lo k tb bm : Nat) (T : Nat → Nat → Nat) (G : Nat → Nat) (V : Nat → Value) (N top : Nat → Nat) : Prop where
  tlo : lo ≤ tb
  blo : lo ≤ bm
  htb : ∃ ov : Int, w.rowIs tb 31 2 (fun j => if j = 0 then .map (some bm) else .int .i64 ov)
  map : MapIs w bm k (fun c => if 0 < bins (T c) then some (G c) else none)
  rng : ∀ c, 0 < bins (T c) → 1 ≤ c ∧ c ≤ 8
  bd : ∀ c, bins (T c) ≤ k
  lc : ∀ c, 0 < bins (T c) → Lc w lo (T c) (G c) (V c) (N c) (top c)
  apart : ∀ c c', 0 < bins (T c) → 0 < bins (T c') → c ≠ c' → G c ≠ G c' ∧ (V c).ownBlock ≠ (V c').ownBlock


/-! ### What a call leaves alone: the blocks below lo, and rows of type 33 -/

structure Kp (lo : Nat) (w w' : World) : Prop where
  os : w'.os = w.os
  tape : w'.tape = w.tape
  output : w'.output = w.output
  size : w.heap.size ≤ w'.heap.size
  block : ∀ i, i < w.heap.size → (i < lo ∨ ∃ cs fr, w.heap[i]? = some (.cells cs 33 fr)) → w'.heap[i]? = w.heap[i]?

theorem Kp.refl (lo : Nat) (w : World) : Kp lo w w := ⟨rfl, rfl, rfl, Nat.le_refl _, fun _ _ _ => rfl⟩

theorem Kp.grown {lo : Nat} {w w' w'' : World} {row : Option Nat} (h : Kp lo w w') (hg : w'.grownBy w'' row) (hrow : ∀ b, row = some b → lo ≤ b ∧ ∀ cs fr, w'.heap[b]? ≠ some (.cells cs 33 fr)) : Kp lo w w'' :=
  ⟨hg.os.trans h.os, hg.tape.trans h.tape, hg.output.trans h.output, Nat.le_trans h.size hg.size, fun i hi hc => by
    have h1 := h.block i hi hc
    rw [hg.block i (Nat.lt_of_lt_of_le hi h.size) ?_, h1]
    intro e
    obtain ⟨h2, h3⟩ := hrow i e.symm
    rcases hc with hc | ⟨cs, fr, hc⟩
    · omega
    · exact h3 cs fr (h1.trans hc)⟩

theorem Kp.trans {lo : Nat} {w w' w'' : World} (h : Kp lo w w') (h' : Kp lo w' w'') : Kp lo w w'' :=
  ⟨h'.os.trans h.os, h'.tape.trans h.tape, h'.output.trans h.output, Nat.le_trans h.size h'.size, fun i hi hc => by
    have h1 := h.block i hi hc
    rw [h'.block i (Nat.lt_of_lt_of_le hi h.size) (hc.imp id (fun ⟨cs, fr, e⟩ => ⟨cs, fr, h1.trans e⟩)), h1]⟩

theorem Kp.below {lo : Nat} {w w' : World} (h : Kp lo w w') (hlo : lo ≤ w.heap.size) : Below lo w w' := ⟨h.os, h.tape, h.output, h.size, fun i hi => h.block i (by omega) (.inl hi)⟩

theorem Kp.row33 {lo : Nat} {w w' : World} (h : Kp lo w w') {b n : Nat} {f : Nat → Value} (hr : w.rowIs b 33 n f) : w'.rowIs b 33 n f :=
  hr.of_block (h.block b hr.lt (.inr (by obtain ⟨c, hc, _⟩ := hr; exact ⟨c, _, hc⟩)))

theorem grown_set (w : World) (a : Addr) (v : Value) : w.grownBy (w.setCell a v) (some a.block) :=
  ⟨rfl, rfl, rfl, by simp [World.setCell], fun k _ hk => blk_setCell_other _ _ _ _ (fun e => hk (by rw [e]))⟩
theorem grown_drew (w : World) : w.grownBy w.drew none := ⟨rfl, rfl, rfl, Nat.le_refl _, fun _ _ _ => rfl⟩

theorem not33 {w : World} {b n : Nat} {t : TypeId} {f : Nat → Value} (h : w.rowIs b t n f) (ht : t ≠ 33) : ∀ cs fr, w.heap[b]? ≠ some (.cells cs 33 fr) := by
  obtain ⟨c, hc, _⟩ := h
  intro cs fr e
  rw [hc] at e
  cases e
  exact ht rfl

theorem own_not33 {w : World} {lo n s : Nat} {v : Value} {xs : List Value} (h : w.ownsRow lo 3 s v n xs) {b : Nat} (hb : v.ownBlock = some b) : lo ≤ b ∧ ∀ cs fr, w.heap[b]? ≠ some (.cells cs 33 fr) := by
  refine ⟨(h.lt b hb).1, ?_⟩
  rcases h.2 with ⟨rfl, _⟩ | ⟨g, cap, cur, rfl, _, hg, _⟩
  · simp [Value.ownBlock] at hb
  · simp only [Value.ownBlock, Option.some.injEq] at hb
    subst hb
    intro cs fr e
    rw [hg] at e
    cases e

theorem MapIs.not33 {w : World} {bm k : Nat} {M : Nat → Option Nat} (h : MapIs w bm k M) : ∀ cs fr, w.heap[bm]? ≠ some (.cells cs 33 fr) := by
  obtain ⟨D, ⟨es, clock, h1, _⟩, _⟩ := h
  intro cs fr e
  rw [h1] at e
  cases e

/-- A struct's block is not the block of a row of numbers. -/
theorem row_ne_own {w : World} {lo n m s : Nat} {t : TypeId} {f : Nat → Value} {b : Nat} {v : Value} {xs : List Value} (hr : w.rowIs b t m f) (ht : t ≠ 3) (h : w.ownsRow lo 3 s v n xs) : v.ownBlock ≠ some b := by
  intro hb
  rcases h.2 with ⟨rfl, _⟩ | ⟨g, cap, cur, rfl, _, hg, _⟩
  · simp [Value.ownBlock] at hb
  · simp only [Value.ownBlock, Option.some.injEq] at hb
    subst hb
    obtain ⟨c, hc, _⟩ := hr
    rw [hg] at hc
    cases hc
    exact ht rfl

theorem row_ne_row {w : World} {b b' m m' : Nat} {t t' : TypeId} {f f' : Nat → Value} (h : w.rowIs b t m f) (h' : w.rowIs b' t' m' f') (ht : t ≠ t') : b ≠ b' := by
  rintro rfl
  obtain ⟨c, hc, _⟩ := h
  obtain ⟨c', hc', _⟩ := h'
  rw [hc] at hc'
  cases hc'
  exact ht rfl

theorem own_kept {w w' : World} {lo n s : Nat} {t : TypeId} {v : Value} {xs : List Value} (h : w.ownsRow lo t s v n xs) (hb : ∀ b, v.ownBlock = some b → w'.heap[b]? = w.heap[b]?) : w'.ownsRow lo t s v n xs := by
  refine ⟨h.1, ?_⟩
  rcases h.2 with hn | ⟨g', cap, cur, hv, hlo, hgg, rest⟩
  · exact .inl hn
  · exact .inr ⟨g', cap, cur, hv, hlo, (hb g' (by rw [hv]; rfl)).trans hgg, rest⟩

theorem nums_get (T : Nat → Nat) (n l : Nat) (h : l < n) : (nums T n)[l]? = some (.int .i64 (T l)) := by simp [nums, h]

/-- The row's slice, as the walk reads it. -/
theorem own_form {w : World} {lo n : Nat} {v : Value} {T : Nat → Nat} (h : w.ownsRow lo 3 1 v n (nums T n)) : ∃ va cap, v = .slice va n cap ∧ (0 < n → ∃ b, va = some ⟨b, 0, none⟩ ∧ v.ownBlock = some b ∧ (∀ l, l < n → w.cell? ⟨b, l, none⟩ = some (.int .i64 (T l))) ∧ ∀ l, w.frozen? ⟨b, l, none⟩ = false) := by
  rcases h.2 with ⟨rfl, rfl⟩ | ⟨g, cap, cur, rfl, _, hg, _, _, hs, ht⟩
  · exact ⟨none, 0, rfl, fun h => by omega⟩
  · refine ⟨_, cap, rfl, fun _ => ⟨g, rfl, rfl, fun l hl => ?_, fun l => by simp [World.frozen?, hg]⟩⟩
    have := nums_get T n l hl
    rw [← ht, List.getElem?_take, if_pos (by omega)] at this
    simpa [World.cell?, hg] using this

/-- A store into the row. -/
theorem own_set {w : World} {lo n : Nat} {v : Value} {T : Nat → Nat} (h : w.ownsRow lo 3 1 v n (nums T n)) {b : Nat} (hb : v.ownBlock = some b) (l x : Nat) : (w.setCell ⟨b, l, none⟩ (.int .i64 x)).ownsRow lo 3 1 v n (nums (fun j => if j = l then x else T j) n) := by
  refine ⟨by simp [nums], ?_⟩
  rcases h.2 with ⟨rfl, rfl⟩ | ⟨g, cap, cur, rfl, hlo, hg, hn, hm, hs, ht⟩
  · simp [Value.ownBlock] at hb
  · simp only [Value.ownBlock, Option.some.injEq] at hb
    subst hb
    refine .inr ⟨g, cap, cur.setIfInBounds l (.int .i64 x), rfl, hlo, ?_, hn, hm, by simpa using hs, ?_⟩
    · simp [World.setCell, Array.getElem?_modify, hg]
    · apply List.ext_getElem?
      intro j
      by_cases hj : j < n
      · have h1 := nums_get T n j hj
        rw [← ht, List.getElem?_take, if_pos (by omega)] at h1
        rw [nums_get _ n j hj, List.getElem?_take, if_pos (by omega), Array.toList_setIfInBounds, List.getElem?_set]
        have hjs : j < cur.size := by omega
        by_cases e : j = l
        · subst e; simp [hjs]
        · rw [if_neg (fun e' => e e'.symm), if_neg e]; exact h1
      · rw [List.getElem?_take, if_neg (by omega), List.getElem?_eq_none (by simp only [nums, List.length_map, List.length_range]; omega)]

end Go.Proofs.Ybulkbsjc
