/-
  THE WALK of (*derBuilder).begin (the seat b6601770a).
-/
import Derived.Test.Qxb6601770aInv
namespace Go.Proofs.Qxb6601770a.Walk
open Go Go.RowKit
set_option linter.unusedVariables false

theorem two_new (w : World) (a b : Value) (t : TypeId) : ∀ j u, [a, b][j]? = some u → (w.alloc (.cells #[a, b] t)).cell? ((⟨w.heap.size, 0, none⟩ : Addr).add j) = some u := by
  intro j u hu
  rw [Addr.add_lit, Nat.zero_add, cell_of_row (w.alloc (.cells #[a, b] t)) w.heap.size j #[a, b] t (0, 0) (heap_alloc_new w _)]
  simpa using hu

theorem begin_any (B D : Nat) (ao : Option Addr) (n cap : Nat) (xs : List Value) (tag : Int) (w : World) (h : Inv B D w ao n cap xs) (hn : n ≤ 4194304) :
    Calls Try.prog 28 #[.pointer (some ⟨D, 0, none⟩), .int .u8 tag] w fun e w' => e = .returned (.int .i64 ((n : Int) + 2)) ∧ (∃ ao' cap', Inv B D w' ao' (n + 2) cap' (xs ++ [.int .u8 tag, .int .u8 0])) ∧ Below B w w' := by
  obtain ⟨i0, hi, hz0, hz1, hz2⟩ := info_parts info5
  have hc := h.cellD
  have H : Hid (Inv B D w ao n cap xs) := h
  clear h
  go_enter Try.func28, Try.ntmps28
  go_wp2_with (at_builtin; refine wpList_append_own _ rfl (.tmp 8) (.tmp 10) 39 rfl B 5 i0 (.int .u8 0) 1 1 Try.underlying39 hi hz0 hz1 hz2 rfl (by decide) _ n xs rfl (H.out.own.alloc _) ⟨w.heap.size, 0, none⟩ 2 2 [.int .u8 tag, .int .u8 0] rfl rfl ?c1 ?c2 ?c3 ?c4 ?c5 ?_)
  case c1 => exact two_new _ _ _ _
  case c2 => intro u hu; simp at hu; rcases hu with rfl | rfl <;> rfl
  case c3 => unfold maxLen; omega
  case c4 => omega
  case c5 => exact (H.out.alloc _).leB
  intro v' w1 hown hgrow _
  obtain ⟨ao1, cap1, hv⟩ := own_slice hown
  rw [hv] at hown
  rw [hv]
  have hD := (H.out.alloc _).kept hgrow
  have HB : Hid (Below B w w1) := ((Below.refl B w).alloc H.out.leB _).trans (below_app (H.out.alloc _) hgrow)
  have hcD : w1.cell? ⟨D, 0, none⟩ = some (.slice ao n cap) := by rw [cell_of_row w1 D 0 _ 39 (0, 0) hD]; rfl
  have hfD : w1.frozen? ⟨D, 0, none⟩ = false := frozen_of_row w1 D 0 _ 39 hD
  have HI : Hid (Inv B D (w1.setCell ⟨D, 0, none⟩ (.slice ao1 (n + 2) cap1)) ao1 (n + 2) cap1 (xs ++ [.int .u8 tag, .int .u8 0])) := store_inv hD hown H.out.le
  have hcE := HI.out.cellD
  have HE : Hid (Below B w (w1.setCell ⟨D, 0, none⟩ (.slice ao1 (n + 2) cap1))) := HB.out.setCell H.out.le _
  clear hown hgrow hD hv hc
  go_wp2
  go_ret
  exact ⟨by go_num, ⟨ao1, cap1, HI.out⟩, HE.out⟩
end Go.Proofs.Qxb6601770a.Walk
