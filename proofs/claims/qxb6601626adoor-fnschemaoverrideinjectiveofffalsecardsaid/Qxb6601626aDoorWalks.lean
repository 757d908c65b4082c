/-
  THE WALKS of the seat b6601626aD: schemaOverride, ZZSchemaOverride and the law.
-/
import Derived.Test.Qxb6601626aDoorShelf
import Derived.Test.Qxb6601626aDoorPlain
import Derived.WalkKit
import Derived.ProofKit
import Derived.WalkSmall
namespace Go.Proofs.Qxb6601626aDoor.Walk
open Go.RowKit Go.Lib
open Go.Proofs.Qxb6601626aDoor Go.Proofs.Qxb6601626aDoor.Plain
set_option linter.unusedVariables false

/-- The table lies as listed. -/
def Tab (w : World) : Prop := Lib.TabIs Tryd.prog w tabName .u64 Lib.pow10Tab

theorem Tab.below {w w' : World} (h : Tab w) (b : Below w.heap.size w w') : Tab w' := by
  unfold Tab Lib.TabIs at *
  obtain ⟨g, hg⟩ : ∃ g, Tryd.prog.globalNamed tabName = some g := by
    unfold World.var? at h
    cases hg : Tryd.prog.globalNamed tabName with
    | none => rw [hg] at h; simp at h
    | some g => exact ⟨g, rfl⟩
  refine var?_below b hg ?_ h
  unfold World.var? at h
  rw [hg] at h
  rcases Nat.lt_or_ge g w.heap.size with h' | h'
  · exact h'
  · simp [Array.getElem?_eq_none h'] at h

theorem below_grow (w : World) (k : Nat) (os : Array Obj) : Below w.heap.size w (Sort.grow (w.drewN k) os) := by
  refine ⟨rfl, rfl, rfl, by simp [Sort.grow], fun j hj => ?_⟩
  show (w.heap ++ os)[j]? = _
  rw [Array.getElem?_append_left hj]

def S (l : List UInt8) : ByteArray := ⟨l.toArray⟩

theorem env_cat (l : List UInt8) : (⟨#[101, 110, 118, 45]⟩ : ByteArray) ++ ⟨l.toArray⟩ = S (envL ++ l) := by
  apply ByteArray.ext
  simp [S, envL]

theorem over_any (i : Int) (w : World) (h0 : -9223372036854775808 ≤ i) (h1 : i ≤ 9223372036854775807) (ht : Tab w) :
    Calls Tryd.prog 13 #[.int .i64 i] w fun e w' => e = .returned (.string (S (ov i))) ∧ Below w.heap.size w w' := by
  have HT : Hid (Tab w) := ht
  clear ht
  by_cases i0 : i.tmod 3 = 0
  · have HO : Hid (ov i = envL ++ itoa i) := by show _ = _; unfold ov; rw [if_pos i0]
    have e0 : (i.tmod 3 == 0) = true := by simpa using i0
    have hadd : ∀ w : World, (Op.stringOp .add ⟨#[101, 110, 118, 45]⟩ ⟨(itoa i).toArray⟩).run Tryd.prog w = .ok (.string (S (envL ++ itoa i))) w := by
      intro w
      have hl := itoa_len i h0 h1
      rw [run_string_add_sum w _ _ (by show 4 + (itoa i).toArray.size ≤ _; simp; omega)]
      rw [env_cat]
    clear i0
    go_enter Tryd.func13, Tryd.ntmps13
    go_wp2_with fail
    refine (itoa_any i h0 h1 _ HT.out).mono ?_
    rintro e w' ⟨rfl, k, os, rfl⟩
    go_wp2_with fail
    go_ret
    exact ⟨by rw [HO.out]; rfl, below_grow _ _ _⟩
  · by_cases i1 : i.tmod 3 = 1
    · have HO : Hid (ov i = itoa (wrap64 (i + 1))) := by show _ = _; unfold ov; rw [if_neg i0, if_pos i1]
      have e0 : (i.tmod 3 == 0) = false := by simpa using i0
      have e1 : (i.tmod 3 == 1) = true := by simpa using i1
      clear i0 i1
      go_enter Tryd.func13, Tryd.ntmps13
      go_wp2_with fail
      refine (itoa_any (wrap64 (i + 1)) (by unfold wrap64; omega) (by unfold wrap64; omega) _ HT.out).mono ?_
      rintro e w' ⟨rfl, k, os, rfl⟩
      go_wp2_with fail
      go_ret
      refine ⟨?_, below_grow _ _ _⟩
      rw [HO.out]
      rfl
    · have HO : Hid (ov i = falseL) := by show _ = _; unfold ov; rw [if_neg i0, if_neg i1]
      have e0 : (i.tmod 3 == 0) = false := by simpa using i0
      have e1 : (i.tmod 3 == 1) = false := by simpa using i1
      clear i0 i1
      go_enter Tryd.func13, Tryd.ntmps13
      go_wp2_with fail
      go_ret
      refine ⟨?_, Below.refl _ _⟩
      rw [HO.out]
      rfl

theorem zz_any (i : Int) (w : World) (h0 : -9223372036854775808 ≤ i) (h1 : i ≤ 9223372036854775807) (ht : Tab w) :
    Calls Tryd.prog 9 #[.int .i64 i] w fun e w' => e = .returned (.string (S (ov i))) ∧ Below w.heap.size w w' := by
  have HT : Hid (Tab w) := ht
  clear ht
  go_enter Tryd.func9, Tryd.ntmps9
  go_wp2_with fail
  refine (over_any i _ h0 h1 HT.out).mono ?_
  rintro e w' ⟨rfl, hb⟩
  have HB : Hid (Below w.heap.size w w') := hb
  clear hb
  go_wp2_with fail
  go_ret
  exact ⟨rfl, HB.out⟩

theorem S_toList (l : List UInt8) : (S l).toList = l := by
  rw [ByteArray.toList_eq]
  simp [S]
theorem ret_true {b : Bool} (h : b = true) : Ending.returned (.bool b) = .returned (.bool true) := by rw [h]
/-- The last test, as the walk shows it. -/
theorem apart_says (i j : Int) (h0 : -9223372036854775808 ≤ i) (h1 : i ≤ 9223372036854775807) (k0 : -9223372036854775808 ≤ j) (k1 : j ≤ 9223372036854775807) (hne : i ≠ j)
    (ha : ((S (ov i)).toList == [102, 97, 108, 115, 101]) = false) (hb : ((S (ov j)).toList == [102, 97, 108, 115, 101]) = false) : (!(S (ov i)).toList == (S (ov j)).toList) = true := by
  rw [S_toList] at ha hb
  rw [S_toList, S_toList]
  have h := ov_apart i j h0 h1 k0 k1 hne (fun e => by rw [e] at ha; exact absurd ha (by decide)) (fun e => by rw [e] at hb; exact absurd hb (by decide))
  simpa using h

theorem law_any (i j : Int) (w : World) (h0 : -9223372036854775808 ≤ i) (h1 : i ≤ 9223372036854775807) (k0 : -9223372036854775808 ≤ j) (k1 : j ≤ 9223372036854775807) (ht : Tab w) :
    Calls Tryd.prog 5 #[.int .i64 i, .int .i64 j] w fun e w' => e = .returned (.bool true) ∧ Below w.heap.size w w' := by
  have HT : Hid (Tab w) := ht
  clear ht
  by_cases hij : i = j
  · subst hij
    go_enter Tryd.func5, Tryd.ntmps5
    go_wp2_with fail
    go_ret
    exact ⟨rfl, Below.refl _ _⟩
  · have HN : Hid (i ≠ j) := hij
    have e0 : (i == j) = false := by simpa using hij
    clear hij
    go_enter Tryd.func5, Tryd.ntmps5
    go_wp2_with fail
    refine (zz_any i _ h0 h1 HT.out).mono ?_
    rintro e w1 ⟨rfl, hb1⟩
    have HB1 : Hid (Below w.heap.size w w1) := hb1
    have HT1 : Hid (Tab w1) := HT.out.below hb1
    clear hb1
    go_wp2_with fail
    refine (zz_any j _ k0 k1 HT1.out).mono ?_
    rintro e w2 ⟨rfl, hb2⟩
    have HB2 : Hid (Below w1.heap.size w1 w2) := hb2
    clear hb2
    go_wp2_with fail
    · go_ret
      exact ⟨rfl, HB1.out.trans (HB2.out.mono HB1.out.size)⟩
    · go_ret
      exact ⟨rfl, HB1.out.trans (HB2.out.mono HB1.out.size)⟩
    · have hf : ((S (ov i)).toList == [102, 97, 108, 115, 101]) = false ∧ ((S (ov j)).toList == [102, 97, 108, 115, 101]) = false := by assumption
      go_ret
      exact ⟨ret_true (apart_says i j h0 h1 k0 k1 HN.out hf.1 hf.2), HB1.out.trans (HB2.out.mono HB1.out.size)⟩
end Go.Proofs.Qxb6601626aDoor.Walk
