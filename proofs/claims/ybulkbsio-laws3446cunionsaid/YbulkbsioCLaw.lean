import Derived.Test.YbulkbsioCBldW
import Derived.Test.YbulkbsioCRaiseW
namespace Go.Proofs.Ybulkbsio
open Go.RowKit Go.Deep

/-- A model that says nothing yet. -/
def z41 : Array Value := Array.replicate 224 (.bool false)
theorem run41 (w : World) : (zeroValue 41).run Yba.prog w = .ok (.agg z41) w := by kernel_rfl
theorem z41_row (w : World) : (w.alloc (.cells z41 41)).rowIs w.heap.size 41 224 (fun _ => .bool false) := by
  have h := World.rowIs_alloc w z41 41 (fun _ => .bool false) (fun i hi => by
    have h' : i < 224 := by simpa [z41] using hi
    rw [z41, Array.getElem?_replicate, if_pos h'])
  simpa [z41] using h

theorem COps.kept {w w' : World} {va : Option Addr} {n ab ao : Nat} {A0 A1 A2 A3 : Nat → Int} (h : COps w va n ab ao A0 A1 A2 A3) (hb : Below w.heap.size w w') : COps w' va n ab ao A0 A1 A2 A3 :=
  have key : ∀ o v, w.cell? ⟨ab, o, none⟩ = some v → w'.cell? ⟨ab, o, none⟩ = some v := fun o v hc => by
    have hlt : ab < w.heap.size := by
      by_cases hx : ab < w.heap.size
      · exact hx
      · rw [World.cell?, Array.getElem?_eq_none (by simpa using hx)] at hc; simp at hc
    rw [World.cell?_of_block (hb.block ab hlt)]; exact hc
  ⟨h.adr, fun r hr => key _ _ (h.c0 r hr), fun r hr => key _ _ (h.c1 r hr), fun r hr => key _ _ (h.c2 r hr), fun r hr => key _ _ (h.c3 r hr), h.bd⟩

theorem COps.lt {w : World} {va : Option Addr} {n ab ao : Nat} {A0 A1 A2 A3 : Nat → Int} (h : COps w va n ab ao A0 A1 A2 A3) (hn : 0 < n) : ab < w.heap.size := by
  have hc := h.c0 0 hn
  by_cases hx : ab < w.heap.size
  · exact hx
  · rw [World.cell?, Array.getElem?_eq_none (by simpa using hx)] at hc; simp at hc

/-- All that the law compares. -/
structure Fin3 (w wr : World) (n kk jj tb : Nat) (v0 v1 : Value) (rb : Nat) (R : Nat → Nat) (X : Nat → Nat → Int) (rs : List Rn) (M1 M2 : Nat → Bool) : Prop where
  bel : Below w.heap.size w wr
  tbl : TB wr (fun _ => True) tb n v0 v1 rb R X rs
  len : rs.length ≤ 1000000
  mt : wr.rowIs w.heap.size 41 224 (fun q => .bool (M1 q))
  mo : wr.rowIs (w.heap.size + 1) 41 224 (fun q => .bool (M2 q))
  ans : ∀ a u t : Nat, a < n → u < n → 1 ≤ t → t ≤ 13 → holdsB a u t X rs = (M1 (a * 56 + u * 14 + t) || (decide (a = kk) && M2 (jj * 56 + u * 14 + t)))

theorem Fin3.later {w wr w' : World} {n kk jj tb : Nat} {v0 v1 : Value} {rb : Nat} {R : Nat → Nat} {X : Nat → Nat → Int} {rs : List Rn} {M1 M2 : Nat → Bool} (h : Fin3 w wr n kk jj tb v0 v1 rb R X rs M1 M2) (hb : Below wr.heap.size wr w') : Fin3 w w' n kk jj tb v0 v1 rb R X rs M1 M2 :=
  ⟨h.bel.trans (hb.mono h.bel.size), h.tbl.later hb, h.len, h.mt.of_block (hb.block _ h.mt.lt), h.mo.of_block (hb.block _ h.mo.lt), h.ans⟩

theorem TB.all {w : World} {S : Nat → Prop} {tb n : Nat} {v0 v1 : Value} {rb : Nat} {R : Nat → Nat} {X : Nat → Nat → Int} {rs : List Rn} (h : TB w S tb n v0 v1 rb R X rs) : TB w (fun _ => True) tb n v0 v1 rb R X rs := ⟨h.tbl, trivial, h.tab.mono (fun _ _ _ => trivial)⟩

theorem law_long (w : World) (n k j : Value) (ta oa : Option Addr) (tl tc ol oc : Nat) (h : 256 < tl ∨ 256 < ol) :
    Calls Yba.prog 5 #[n, k, j, .slice ta tl tc, .slice oa ol oc] w fun e w' => e = .returned (.bool true) ∧ Below w.heap.size w w' := by
  by_cases h1 : 256 < tl
  · have hd : decide ((256 : Int) < (tl : Int)) = true := by simp; omega
    go_enter Yba.func5, Yba.ntmps5
    go_wp2
    go_ret
    exact ⟨rfl, Below.refl _ _⟩
  · have hd : decide ((256 : Int) < (tl : Int)) = false := by simp; omega
    have hd2 : decide ((256 : Int) < (ol : Int)) = true := by simp; omega
    go_enter Yba.func5, Yba.ntmps5
    go_wp2
    go_ret
    exact ⟨rfl, Below.refl _ _⟩

end Go.Proofs.Ybulkbsio
