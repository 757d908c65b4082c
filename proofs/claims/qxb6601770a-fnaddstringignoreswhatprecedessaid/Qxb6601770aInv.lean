/-
  THE BUILDER's INVARIANT (the seat b6601770a): block D holds the builder's slice value; the value owns its bytes in a row of the call's own.
-/
import Derived.Test.Qxb6601770aClone
import Derived.Test.Qxb6601770aZeros
namespace Go.Proofs.Qxb6601770a.Walk
open Go Go.RowKit
set_option linter.unusedVariables false

/-- Whatever owns a row is a slice of that length. -/
theorem own_slice {w : World} {B e sz : Nat} {v : Value} {n : Nat} {xs : List Value} (h : w.ownsRow B e sz v n xs) : ∃ ao cap, v = .slice ao n cap := by
  rcases h.2 with ⟨rfl, rfl⟩ | ⟨g, cap, cur, rfl, _⟩
  · exact ⟨none, 0, rfl⟩
  · exact ⟨some ⟨g, 0, none⟩, cap, rfl⟩
theorem own_some {w : World} {B e sz : Nat} {ao : Option Addr} {n cap : Nat} {xs : List Value} (h : w.ownsRow B e sz (.slice ao n cap) n xs) (hn : 0 < n) : ∃ g, ao = some ⟨g, 0, none⟩ := by
  rcases h.2 with ⟨h', h0⟩ | ⟨g, cap', cur, h', _⟩
  · omega
  · simp only [Value.slice.injEq] at h'
    exact ⟨g, h'.1⟩

structure Inv (B D : Nat) (w : World) (ao : Option Addr) (n cap : Nat) (xs : List Value) : Prop where
  heap : w.heap[D]? = some (.cells #[.slice ao n cap] 39 (0, 0))
  own : w.ownsRow B 5 1 (.slice ao n cap) n xs
  le : B ≤ D

variable {B D : Nat} {w w' : World} {ao ao' : Option Addr} {n n' cap cap' : Nat} {xs xs' : List Value}

theorem Inv.len (h : Inv B D w ao n cap xs) : xs.length = n := by simpa using h.own.1
theorem Inv.cellD (h : Inv B D w ao n cap xs) : w.cell? ⟨D, 0, none⟩ = some (.slice ao n cap) := by
  rw [cell_of_row w D 0 _ 39 (0, 0) h.heap]; rfl
theorem Inv.frozenD (h : Inv B D w ao n cap xs) : w.frozen? ⟨D, 0, none⟩ = false := frozen_of_row w D 0 _ 39 h.heap
theorem Inv.ltD (h : Inv B D w ao n cap xs) : D < w.heap.size := (Array.getElem?_eq_some_iff.1 h.heap).1
theorem Inv.leB (h : Inv B D w ao n cap xs) : B ≤ w.heap.size := Nat.le_of_lt (Nat.lt_of_le_of_lt h.le h.ltD)

/-- What owns a row of bytes does not lie in a block of another type. -/
theorem own_ne {v : Value} (hh : ∃ c t f, w.heap[D]? = some (.cells c t f) ∧ t ≠ 5) (h : w.ownsRow B 5 1 v n xs) : v.ownBlock ≠ some D := by
  obtain ⟨c, t, f, hh, ht⟩ := hh
  rcases h.2 with ⟨rfl, _⟩ | ⟨g, cap, cur, rfl, _, hg, _⟩
  · simp [Value.ownBlock]
  · intro e
    simp only [Value.ownBlock, Option.some.injEq] at e
    subst e
    rw [hh] at hg
    simp at hg
    exact ht hg.2.1
theorem Inv.ne (h : Inv B D w ao n cap xs) : (Value.slice ao n cap).ownBlock ≠ some D := own_ne ⟨_, _, _, h.heap, by decide⟩ h.own

/-- Behind an append: D holds what it held. -/
theorem Inv.kept (h : Inv B D w ao n cap xs) (hg : w.grownBy w' (Value.slice ao n cap).ownBlock) : w'.heap[D]? = some (.cells #[.slice ao n cap] 39 (0, 0)) := by
  rw [hg.block D h.ltD (fun e => h.ne e.symm)]; exact h.heap
/-- The same behind an append in a world that has a new block more. -/
theorem Inv.alloc (h : Inv B D w ao n cap xs) (o : Obj) : Inv B D (w.alloc o) ao n cap xs :=
  ⟨by rw [Below.heap_alloc w o D h.ltD]; exact h.heap, h.own.alloc o, h.le⟩

/-- The new value stored back. -/
theorem store_inv {v0 : Value} (hD : w.heap[D]? = some (.cells #[v0] 39 (0, 0))) (ho : w.ownsRow B 5 1 (.slice ao n cap) n xs) (hl : B ≤ D) : Inv B D (w.setCell ⟨D, 0, none⟩ (.slice ao n cap)) ao n cap xs := by
  have hne := own_ne ⟨_, _, _, hD, by decide⟩ ho
  have hD' := heap_setCell_same w D 0 #[v0] 39 (.slice ao n cap) hD
  refine ⟨by rw [hD']; rfl, ho.kept (w' := w.setCell ⟨D, 0, none⟩ (.slice ao n cap)) (row := some D) ⟨rfl, rfl, rfl, by simp [World.setCell], fun k hk he => Below.heap_setCell _ _ _ _ (fun e => he (by rw [e]))⟩ (.inr hne), hl⟩

/-- The frame behind an append. -/
theorem below_app (h : Inv B D w ao n cap xs) (hg : w.grownBy w' (Value.slice ao n cap).ownBlock) : Below B w w' :=
  (Below.refl _ _).grown hg h.leB (fun k e => (h.own.lt k e).1)
end Go.Proofs.Qxb6601770a.Walk
