/-
  THE WALKS of zzCat2 and zzEq (the seat b6601770a).
-/
import Derived.Test.Qxb6601770aAdd
import Derived.Deep.QuietTactic
import Derived.BigQuiet
namespace Go.Proofs.Qxb6601770a.Walk
open Go Go.RowKit Go.Lib
set_option linter.unusedVariables false

/-- A slice whose elements can be read: nil; or a row's head. -/
def Src (w : World) (ao : Option Addr) (n cap : Nat) (L : List Value) : Prop :=
  L.length = n ∧ ((ao = none ∧ n = 0 ∧ cap = 0) ∨ ∃ g, ao = some ⟨g, 0, none⟩ ∧ g < w.heap.size ∧ ∀ j u, L[j]? = some u → w.cell? ⟨g, j, none⟩ = some u)

variable {w w' : World} {ao : Option Addr} {n cap B : Nat} {L : List Value}

theorem src_of_own (h : w.ownsRow B 5 1 (.slice ao n cap) n L) : Src w ao n cap L := by
  have hl : L.length = n := by simpa using h.1
  refine ⟨hl, ?_⟩
  rcases h.2 with ⟨h', h0⟩ | ⟨g, cap', cur, h', hb, hg, hnc, hcm, hcs, ht⟩
  · simp only [Value.slice.injEq] at h'
    exact .inl ⟨h'.1, h'.2.1, h'.2.2⟩
  · simp only [Value.slice.injEq] at h'
    obtain ⟨rfl, _, rfl⟩ := h'
    refine .inr ⟨g, rfl, (Array.getElem?_eq_some_iff.1 hg).1, fun j u hu => ?_⟩
    rw [h.cellAt j (by have := (List.getElem?_eq_some_iff.1 hu).1; omega)]
    exact hu
theorem Src.below (h : Src w ao n cap L) (hb : Below w.heap.size w w') : Src w' ao n cap L := by
  refine ⟨h.1, ?_⟩
  rcases h.2 with h | ⟨g, rfl, hg, hc⟩
  · exact .inl h
  · exact .inr ⟨g, rfl, Nat.lt_of_lt_of_le hg hb.size, fun j u hu => (hb.cell (by exact hg)).trans (hc j u hu)⟩
theorem Src.none (h : Src w ao n cap L) : ao = none → n = 0 ∧ cap = 0 := by
  intro e
  rcases h.2 with ⟨_, h1, h2⟩ | ⟨g, h', _⟩
  · exact ⟨h1, h2⟩
  · rw [e] at h'; cases h'
theorem Src.cells (h : Src w ao n cap L) : ∀ ad, ao = some ad → ∀ j u, L[j]? = some u → w.cell? (ad.add j) = some u := by
  intro ad e j u hu
  rcases h.2 with ⟨h', _⟩ | ⟨g, h', _, hc⟩
  · rw [e] at h'; cases h'
  · rw [e] at h'
    obtain rfl := Option.some.inj h'
    rw [Addr.add_lit, Nat.zero_add]
    exact hc j u hu

/-- zzCat2: a new row with both. -/
theorem cat_any (ao1 ao2 : Option Addr) (n1 n2 c1 c2 : Nat) (L1 L2 : List Value) (w : World) (h1 : Src w ao1 n1 c1 L1) (h2 : Src w ao2 n2 c2 L2) (o1 : ∀ v ∈ L1, v.oneCell' = true) (o2 : ∀ v ∈ L2, v.oneCell' = true) (b1 : n1 ≤ 1048576) (b2 : n2 ≤ 4194304) :
    Calls Try.prog 12 #[.slice ao1 n1 c1, .slice ao2 n2 c2] w fun e w' => ∃ g, e = .returned (.slice (some ⟨g, 0, none⟩) (n1 + n2) (n1 + n2)) ∧ w'.ownsRow w.heap.size 5 1 (.slice (some ⟨g, 0, none⟩) (n1 + n2) (n1 + n2)) (n1 + n2) (L1 ++ L2) ∧ Below w.heap.size w w' := by
  obtain ⟨i0, hi, hz0, hz1, hz2⟩ := info_parts info5
  have H1 : Hid (Src w ao1 n1 c1 L1) := h1
  have H2 : Hid (Src w ao2 n2 c2 L2) := h2
  have O1 : Hid (∀ v ∈ L1, v.oneCell' = true) := o1
  have O2 : Hid (∀ v ∈ L2, v.oneCell' = true) := o2
  have hmk : i0.bytes * (n1 + n2) ≤ 281474976710656 := by rw [hz2]; omega
  have hmax : n1 + n2 ≤ maxLen := by unfold maxLen; omega
  clear h1 h2 o1 o2
  go_enter Try.func12, Try.ntmps12
  go_wp2_with (at_make; refine wpList_make_own _ rfl _ _ 22 rfl w.heap.size 5 i0 (.int .u8 0) 1 Try.underlying22 hi hz0 hz1 _ _ _ (n1 + n2) rfl rfl (by omega) hmk hmax (Nat.le_refl _) ?_)
  intro w1 hown1 hgrow1
  have HB1 : Hid (Below w.heap.size w w1) := (Below.refl _ _).grown hgrow1 (Nat.le_refl _) (fun k e => by cases e)
  have HW1 : Hid (w1.ownsRow w.heap.size 5 1 (.slice (some ⟨w.heap.size, 0, none⟩) 0 (n1 + n2)) 0 []) := hown1
  clear hown1 hgrow1
  go_wp2_with (at_builtin; refine wpList_append_fits_any _ rfl (.tmp 12) (.tmp 13) 22 rfl w.heap.size 5 i0 1 Try.underlying22 hi hz1 w.heap.size 0 (n1 + n2) [] rfl HW1.out ao1 n1 c1 L1 rfl ?c1 ?c2 ?c3 O1.out ?c4 ?_)
  case c1 => rw [H1.out.1, Nat.mul_one]
  case c2 => exact H1.out.none
  case c3 => exact (H1.out.below HB1.out).cells
  case c4 => omega
  intro w2 hown2 hgrow2
  have HB2 : Hid (Below w.heap.size w w2) := HB1.out.grown hgrow2 HB1.out.size (fun k e => by cases e; exact Nat.le_refl _)
  have HW2 : Hid (w2.ownsRow w.heap.size 5 1 (.slice (some ⟨w.heap.size, 0, none⟩) n1 (n1 + n2)) n1 L1) := hown2
  clear hown2 hgrow2
  go_wp2_with (at_builtin; refine wpList_append_fits_any _ rfl (.tmp 15) (.tmp 16) 22 rfl w.heap.size 5 i0 1 Try.underlying22 hi hz1 w.heap.size n1 (n1 + n2) L1 rfl HW2.out ao2 n2 c2 L2 rfl ?d1 ?d2 ?d3 O2.out ?d4 ?_)
  case d1 => rw [H2.out.1, Nat.mul_one]
  case d2 => exact H2.out.none
  case d3 => exact (H2.out.below HB2.out).cells
  case d4 => omega
  intro w3 hown3 hgrow3
  have HB3 : Hid (Below w.heap.size w w3) := HB2.out.grown hgrow3 HB2.out.size (fun k e => by cases e; exact Nat.le_refl _)
  have HW3 : Hid (w3.ownsRow w.heap.size 5 1 (.slice (some ⟨w.heap.size, 0, none⟩) (n1 + n2) (n1 + n2)) (n1 + n2) (L1 ++ L2)) := hown3
  clear hown3 hgrow3
  go_wp2
  go_ret
  exact ⟨w.heap.size, rfl, HW3.out, HB3.out⟩

/-- zzEq at two rows that hold the same bytes. -/
theorem eq_same (ao1 ao2 : Option Addr) (n c1 c2 : Nat) (zs : List Int) (w : World) (h1 : Src w ao1 n c1 (zs.map (Value.int .u8))) (h2 : Src w ao2 n c2 (zs.map (Value.int .u8))) (hn : n ≤ 8388608) :
    Calls Try.prog 14 #[.slice ao1 n c1, .slice ao2 n c2] w fun e w' => e = .returned (.bool true) ∧ ∃ q, w' = w.drewN q := by
  have hz : zs.length = n := by simpa using h1.1
  by_cases hpos : 0 < n
  · obtain ⟨g1, rfl, _, k1⟩ : ∃ g, ao1 = some ⟨g, 0, none⟩ ∧ g < w.heap.size ∧ ∀ j u, (zs.map (Value.int .u8))[j]? = some u → w.cell? ⟨g, j, none⟩ = some u := by
      rcases h1.2 with ⟨_, h, _⟩ | h
      · omega
      · exact h
    obtain ⟨g2, rfl, _, k2⟩ : ∃ g, ao2 = some ⟨g, 0, none⟩ ∧ g < w.heap.size ∧ ∀ j u, (zs.map (Value.int .u8))[j]? = some u → w.cell? ⟨g, j, none⟩ = some u := by
      rcases h2.2 with ⟨_, h, _⟩ | h
      · omega
      · exact h
    have K1 : Hid (∀ j, j < n → ∃ z, w.cell? ⟨g1, j, none⟩ = some (.int .u8 z) ∧ w.cell? ⟨g2, j, none⟩ = some (.int .u8 z)) := by
      intro j hj
      have e : (zs.map (Value.int .u8))[j]? = some (.int .u8 (zs[j]'(by omega))) := by simp [show j < zs.length by omega]
      exact ⟨_, k1 j _ e, k2 j _ e⟩
    clear h1 h2 k1 k2 hz
    go_enter Try.func14, Try.ntmps14
    go_wp2
    go_loopw [5] (fun i wr => ∃ k q : Nat, k ≤ n ∧ i = .int .i64 k ∧ wr = w.drewN q) (fun i _ => n - (intOf i).toNat)
    case atStart => exact ⟨0, 0, Nat.zero_le _, rfl, rfl⟩
    case round =>
      obtain ⟨k, q, hk, rfl, rfl⟩ := hrel
      by_cases hlt : k < n
      · obtain ⟨z, e1, e2⟩ := K1.out k hlt
        go_wp2
        go_quiet (fail)
        go_wp2
        go_roundw
        case rel => exact ⟨k + 1, _, by omega, by go_num, rfl⟩
        case measure => simp [intOf]; omega
      · go_wp2
        go_ret
        exact ⟨rfl, q, rfl⟩
  · obtain rfl : n = 0 := by omega
    clear h1 h2 hz
    go_enter Try.func14, Try.ntmps14
    go_wp2
    go_loop [5] (fun i => i = .int .i64 0) (fun _ => 0)
    case atStart => rfl
    case round =>
      subst hrel
      go_wp2
      go_ret
      exact ⟨rfl, 0, rfl⟩
end Go.Proofs.Qxb6601770a.Walk
