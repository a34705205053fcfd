import Derived.Test.YbulkbsioCNormW
namespace Go.Proofs.Ybulkbsio
open Go.RowKit Go.Deep

/-- A row's number raised. -/
theorem hold_max {k uu : Nat} {X : Nat → Nat → Int} {rs : List Rn} (v M : Int) (hM : M = max (X k uu) v) (a u : Nat) (t : Int) :
    HP a u t (fun c d => if c = k ∧ d = uu then M else X c d) rs ↔ (HP a u t X rs ∨ (a = k ∧ u = uu ∧ t ≤ v)) := by
  unfold HP
  generalize (∃ (q : Nat) (x : Rn), rs[q]? = some x ∧ hit a u t x) = E
  have key : t ≤ (if a = k ∧ u = uu then M else X a u) ↔ (t ≤ X a u ∨ (a = k ∧ u = uu ∧ t ≤ v)) := by
    by_cases e : a = k ∧ u = uu
    · obtain ⟨rfl, rfl⟩ := e
      simp only [and_self, if_true, true_and]
      omega
    · rw [if_neg e]
      constructor
      · exact .inl
      · rintro (h | ⟨h1, h2, -⟩)
        · exact h
        · exact absurd ⟨h1, h2⟩ e
  constructor
  · rintro (h | h)
    · rcases key.1 h with h | h
      · exact .inl (.inl h)
      · exact .inr h
    · exact .inl (.inr h)
  · rintro ((h | h) | h)
    · exact .inl (key.2 (.inl h))
    · exact .inr h
    · exact .inl (key.2 (.inr h))

/-- What a mutator leaves: k wins what P says, nobody else anything. -/
def Left (w w' : World) (S : Nat → Prop) (tb n : Nat) (v0 : Value) (rb : Nat) (R : Nat → Nat) (X : Nat → Nat → Int) (rs : List Rn) (d : Nat) (P : Nat → Nat → Int → Prop) : Prop :=
  ∃ v1' X' rs', Kept S w w' ∧ TB w' (Up S w) tb n v0 v1' rb R X' rs' ∧ Good n rs' ∧ rs'.length ≤ rs.length + d ∧ ∀ a u t, a < n → u < n → (HP a u t X' rs' ↔ (HP a u t X rs ∨ P a u t))

set_option maxHeartbeats 4000000 in
set_option maxRecDepth 100000 in
theorem extend_any (w : World) (S : Nat → Prop) (tb n rb : Nat) (R : Nat → Nat) (X : Nat → Nat → Int) (rs : List Rn) (v0 v1 : Value) (k uu : Nat) (v : Int) (h6 : n ≤ 6) (hk : k < n) (hu : uu < n)
    (hT : TB w S tb n v0 v1 rb R X rs) (hg : Good n rs) (hrl : rs.length ≤ 100000) :
    Calls Yba.prog 18 #[.pointer (some ⟨tb, 0, none⟩), .int .i64 ((k : Int) + 1), .int .i64 ((uu : Int) + 1), .int .u64 v] w fun e w' => e = .returned (.tuple #[]) ∧ Left w w' S tb n v0 rb R X rs 0 (fun a u t => a = k ∧ u = uu ∧ t ≤ v) := by
  obtain rfl := hT.tab.hv0
  have hkz : (k : Int) < (n : Int) := by omega
  have huz : (uu : Int) < (n : Int) := by omega
  have hkw : IntKind.i64.wrap ((k : Int) + 1 - 1) = (k : Int) := by rw [IntKind.wrap_i64]; omega
  have huw : IntKind.i64.wrap ((uu : Int) + 1 - 1) = (uu : Int) := by rw [IntKind.wrap_i64]; omega
  have c0 : w.cell? ⟨tb, 0, none⟩ = some (.slice (some ⟨rb, 0, none⟩) n n) := by rw [World.cell?, hT.tbl]; rfl
  have c2 : w.cell? ⟨rb, k, none⟩ = some (.slice (some ⟨R k, 0, none⟩) n n) := hT.tab.top.cell hk
  have c3 : w.cell? ⟨R k, uu, none⟩ = some (.int .u64 (X k uu)) := (hT.tab.row k hk).2.cell hu
  have c4 := (hT.tab.row k hk).2.frozen uu
  have HM : ∀ M, M = max (X k uu) v → Calls Yba.prog 20 #[.pointer (some ⟨tb, 0, none⟩), .int .i64 ((k : Int) + 1)] (w.drew.setCell ⟨R k, uu, none⟩ (.int .u64 M)) fun e w' => e = .returned (.tuple #[]) ∧ Left w w' S tb n (.slice (some ⟨rb, 0, none⟩) n n) rb R X rs 0 (fun a u t => a = k ∧ u = uu ∧ t ≤ v) := fun M hM => by
    have hT1 : TB w.drew S tb n (.slice (some ⟨rb, 0, none⟩) n n) v1 rb R X rs := hT.same rfl
    refine (norm_any _ S tb n rb R _ rs _ v1 k h6 hk (hT1.setRow hk uu M) hg hrl).mono ?_
    rintro e w' ⟨rfl, v1', X', rs', hK, hT', hg', hl, hh⟩
    have hK0 : Kept S w (w.drew.setCell ⟨R k, uu, none⟩ (.int .u64 M)) := ((Kept.refl S w).drew).setCell (p := ⟨R k, uu, none⟩) (fun _ => (hT.tab.row k hk).1) _
    refine ⟨rfl, v1', X', rs', hK0.trans hK (fun _ _ h => h), ⟨hT'.tbl, .inl hT'.stb, hT'.tab.mono (fun k h _ => .inl h)⟩, hg', by omega, fun a u t ha _ => ?_⟩
    rw [hh a u t ha]
    exact hold_max v M hM a u t
  have HC : Hid (∀ M, M = max (X k uu) v → Calls Yba.prog 20 #[.pointer (some ⟨tb, 0, none⟩), .int .i64 ((k : Int) + 1)] (w.drew.setCell ⟨R k, uu, none⟩ (.int .u64 M)) fun e w' => e = .returned (.tuple #[]) ∧ Left w w' S tb n (.slice (some ⟨rb, 0, none⟩) n n) rb R X rs 0 (fun a u t => a = k ∧ u = uu ∧ t ≤ v)) := HM
  clear HM hT hg
  go_enter Yba.func18, Yba.ntmps18
  go_wp2_with fail
  go_region
  all_goals go_wp2_with fail
  all_goals
    refine (HC.out _ ?hM).mono ?_
    case hM => omega
    rintro e w' ⟨rfl, hL⟩
    go_wp2
    go_end0
    exact ⟨rfl, hL⟩

end Go.Proofs.Ybulkbsio
