/-
  A LAW OF NO PROGRAM: copy into a row of the call's own as one step of a region that draws its order, the world behind it told (after the kit's step_copy_splice).
-/
import Derived.Test.Qxb6601770aEndShort
import Derived.Laws.CopyOwn
namespace Go.Proofs.Qxb6601770a.Law
open Go Go.RowKit
set_option linter.unusedVariables false

theorem step_copy_row {P : Program} {ops : Array Oper} {o : Oper} {a : Act} {w : World} {K : Act → World → Prop} {Q : Exit → Act → World → Prop} {E : Prop} (hgd : o.guard = none) (d s : Operand) (dT sT : TypeId)
    (ho : o.op = .call { callee := .builtin .copy, args := #[d, s], argTypes := #[dT, sT] }) (elem : TypeId) (hu : P.underlying dT = some (.slice elem)) (hsz : (P.info? elem).map (·.size) = some 1)
    (g off dLen dCap : Nat) (ad : Addr) (sLen sCap : Nat) (hd : a.eval d = .slice (some ⟨g, off, none⟩) dLen dCap) (hs : a.eval s = .slice (some ad) sLen sCap)
    (cur : List Value) (t : TypeId) (hg : w.heap[g]? = some (.cells cur.toArray t (0, 0))) (cs : List Value) (hn : cs.length = Nat.min sLen dLen)
    (hsrc : ∀ j v, cs[j]? = some v → w.cell? (ad.add j) = some v) (hfit : off + cs.length ≤ cur.length) (h1 : ∀ v ∈ cs, v.oneCell' = true)
    (h : ∀ w', Hid (w' = w.setRow g (splice cur off cs).toArray) → K (a.put o.dst (goInt cs.length)) w') :
    if Region.wanted o (yielded ops a.tmps) = true then Oper.wp P o a w K Q else E := by
  have hw : Region.wanted o (yielded ops a.tmps) = true := by simp [Region.wanted, hgd]
  rw [if_pos hw]
  have hrun := run_copy_row (P := P) w dT sT o.type elem g off dLen dCap ad sLen sCap cur.toArray t cs hu hsz hg hn hsrc (by simpa using hfit) h1
  unfold Oper.wp
  simp [execOp, ho, resolve, invoke, builtin, hd, hs, hrun, Result.andThen]
  exact h _ (show _ = _ by simp [splice])
end Go.Proofs.Qxb6601770a.Law
namespace Go.Proofs.Qxb6601770a.Walk
open Go Go.RowKit
set_option linter.unusedVariables false
variable {B D g n cap : Nat} {w : World} {xs : List Value}

/-- The whole row, spare and all. -/
theorem Inv.row (h : Inv B D w (some ⟨g, 0, none⟩) n cap xs) : ∃ cur : List Value, w.heap[g]? = some (.cells cur.toArray 5 (0, 0)) ∧ cur.length = cap ∧ cur.take n = xs := by
  rcases h.own.2 with ⟨h', _⟩ | ⟨g', cap', cur, h', _, hg, _, _, hcs, ht⟩
  · simp at h'
  · simp only [Value.slice.injEq, Option.some.injEq, Addr.mk.injEq, and_true, true_and] at h'
    obtain ⟨rfl, rfl⟩ := h'
    exact ⟨cur.toList, by simpa using hg, by simpa using hcs, by simpa using ht⟩

/-- The row laid anew. -/
theorem Inv.setRow (h : Inv B D w (some ⟨g, 0, none⟩) n cap xs) (cur : List Value) (hc : cur.length = cap) : Inv B D (w.setRow g cur.toArray) (some ⟨g, 0, none⟩) n cap (cur.take n) := by
  have hne : D ≠ g := fun e => h.ne (by rw [e]; rfl)
  obtain ⟨c0, hg, _, _⟩ := h.row
  obtain ⟨hnc, hcm⟩ := h.capLe
  refine ⟨by rw [setRow_other w g D _ hne]; exact h.heap, ⟨by simp; omega, .inr ⟨g, cap, cur.toArray, rfl, h.leG, setRow_heap w g _ _ 5 _ hg, hnc, hcm, by simpa using hc, by simp⟩⟩, h.le⟩
theorem Inv.drew (h : Inv B D w (some ⟨g, 0, none⟩) n cap xs) : Inv B D w.drew (some ⟨g, 0, none⟩) n cap xs := ⟨h.heap, h.own, h.le⟩
theorem Inv.below_setRow (h : Inv B D w (some ⟨g, 0, none⟩) n cap xs) (cur : List Value) : Below B w (w.setRow g cur.toArray) := Go.below_setRow (Below.refl _ _) h.leG _
end Go.Proofs.Qxb6601770a.Walk
