/-
  THE WALK of (*derBuilder).end where the contents are shorter than 128 bytes (the seat b6601770a).
-/
import Derived.Test.Qxb6601770aBegin
namespace Go.Proofs.Qxb6601770a.Walk
open Go Go.RowKit
set_option linter.unusedVariables false

/-- One byte of the row is written. -/
theorem Inv.set {B D g n cap : Nat} {w : World} {xs : List Value} (h : Inv B D w (some ⟨g, 0, none⟩) n cap xs) (j : Nat) (u : Value) :
    Inv B D (w.setCell ⟨g, j, none⟩ u) (some ⟨g, 0, none⟩) n cap (xs.set j u) := by
  have hne : D ≠ g := fun e => h.ne (by rw [e]; rfl)
  exact ⟨by rw [Below.heap_setCell _ _ _ _ hne]; exact h.heap, (h.own.stored j u).1, h.le⟩
theorem Inv.leG {B D g n cap : Nat} {w : World} {xs : List Value} (h : Inv B D w (some ⟨g, 0, none⟩) n cap xs) : B ≤ g := (h.own.lt g rfl).1
theorem Inv.cellAt {B D g n cap : Nat} {w : World} {xs : List Value} (h : Inv B D w (some ⟨g, 0, none⟩) n cap xs) (j : Nat) (hj : j < n) : w.cell? ⟨g, j, none⟩ = xs[j]? := h.own.cellAt j (by omega)
theorem Inv.cellSome {B D g n cap : Nat} {w : World} {xs : List Value} (h : Inv B D w (some ⟨g, 0, none⟩) n cap xs) (j : Nat) (hj : j < n) : ∃ v0, w.cell? ⟨g, j, none⟩ = some v0 := by
  rw [h.cellAt j hj]
  exact ⟨_, List.getElem?_eq_getElem (by rw [h.len]; exact hj)⟩
theorem Inv.capLe {B D g n cap : Nat} {w : World} {xs : List Value} (h : Inv B D w (some ⟨g, 0, none⟩) n cap xs) : n ≤ cap ∧ cap ≤ maxLen := by
  rcases h.own.2 with ⟨h', _⟩ | ⟨g', cap', cur, h', _, _, hnc, hcm, _⟩
  · simp at h'
  · simp only [Value.slice.injEq, Option.some.injEq, Addr.mk.injEq, and_true, true_and] at h'
    obtain ⟨rfl, rfl⟩ := h'
    exact ⟨hnc, hcm⟩

theorem end_short (B D g st m cap : Nat) (xs : List Value) (w : World) (h : Inv B D w (some ⟨g, 0, none⟩) (st + m) cap xs) (hst : 1 ≤ st) (hst2 : st ≤ 4194304) (hm : m < 128) :
    Calls Try.prog 25 #[.pointer (some ⟨D, 0, none⟩), .int .i64 (st : Int)] w fun e w' => e = .returned (.tuple #[]) ∧ (∃ ao' cap', Inv B D w' ao' (st + m) cap' (xs.set (st - 1) (.int .u8 m))) ∧ Below B w w' := by
  have hc := h.cellD
  obtain ⟨v0, hold⟩ := h.cellSome (st - 1) (by omega)
  have hfr := h.own.frozenAt (st - 1)
  have H : Hid (Inv B D w (some ⟨g, 0, none⟩) (st + m) cap xs) := h
  clear h
  go_enter Try.func25, Try.ntmps25
  go_wp2
  refine bodyPost_ret (results_none rfl _ _ _) rfl ?_
  have e : ((st : Int) + (m : Int) - (st : Int)) = (m : Int) := by omega
  refine ⟨rfl, ⟨some ⟨g, 0, none⟩, cap, ?_⟩, ?_⟩
  · rw [e]; exact H.out.set (st - 1) _
  · exact (Below.refl _ _).setCell H.out.leG _
end Go.Proofs.Qxb6601770a.Walk
