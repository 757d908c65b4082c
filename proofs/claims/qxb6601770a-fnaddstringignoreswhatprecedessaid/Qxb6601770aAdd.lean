/-
  THE WALKS of (*derBuilder).addString and ZZAddString (the seat b6601770a).
-/
import Derived.Test.Qxb6601770aEndLong
namespace Go.Proofs.Qxb6601770a.Walk
open Go Go.RowKit Go.Lib
set_option linter.unusedVariables false

/-- WHAT addString APPENDS: the element: it hangs on the tag and the string alone. -/
def tlv (tag : Int) (s : ByteArray) : List Value :=
  if s.size < 128 then [.int .u8 tag, .int .u8 s.size] ++ strCells s
  else [.int .u8 tag, .int .u8 (128 + (sz s.size : Int))] ++ ext s.size (sz s.size) ++ strCells s

theorem row_short (xs : List Value) (tag : Int) (s : ByteArray) (n : Nat) (hx : xs.length = n) (h : s.size < 128) :
    (xs ++ [Value.int .u8 tag, .int .u8 0] ++ strCells s).set (n + 2 - 1) (.int .u8 s.size) = xs ++ tlv tag s := by
  unfold tlv
  rw [if_pos h, List.append_assoc, List.set_append_right _ _ (by omega), hx, show n + 2 - 1 - n = 1 by omega]
  rfl
theorem row_long (xs : List Value) (tag : Int) (s : ByteArray) (n : Nat) (hx : xs.length = n) (h : ¬ s.size < 128) :
    ((xs ++ [Value.int .u8 tag, .int .u8 0] ++ strCells s).take (n + 2)).set (n + 2 - 1) (.int .u8 (128 + (sz s.size : Int))) ++ ext s.size (sz s.size) ++ (xs ++ [Value.int .u8 tag, .int .u8 0] ++ strCells s).drop (n + 2) = xs ++ tlv tag s := by
  have h1 : (xs ++ [Value.int .u8 tag, .int .u8 0]).length = n + 2 := by simp; omega
  rw [List.take_append_of_le_length (by omega), List.take_of_length_le (by omega), List.drop_append_of_le_length (by omega), List.drop_of_length_le (by omega), List.nil_append]
  rw [List.set_append_right _ _ (by omega), hx, show n + 2 - 1 - n = 1 by omega]
  unfold tlv
  rw [if_neg h]
  simp

theorem one_app {xs ys : List Value} (h1 : ∀ v ∈ xs, v.oneCell' = true) (h2 : ∀ v ∈ ys, v.oneCell' = true) : ∀ v ∈ xs ++ ys, v.oneCell' = true := by
  intro v hv
  rcases List.mem_append.1 hv with h | h
  · exact h1 v h
  · exact h2 v h

theorem add_any (B D : Nat) (ao : Option Addr) (n cap : Nat) (xs : List Value) (tag : Int) (s : ByteArray) (w : World) (h : Inv B D w ao n cap xs) (hn : n ≤ 1048576) (hs : s.size ≤ 1048576) (h1 : ∀ v ∈ xs, v.oneCell' = true) :
    Calls Try.prog 26 #[.pointer (some ⟨D, 0, none⟩), .int .u8 tag, .string s] w fun e w' => e = .returned (.tuple #[]) ∧ (∃ ao' n' cap', Inv B D w' ao' n' cap' (xs ++ tlv tag s)) ∧ Below B w w' := by
  obtain ⟨i0, hi, hz0, hz1, hz2⟩ := info_parts info5
  have H : Hid (Inv B D w ao n cap xs) := h
  have H1 : Hid (∀ v ∈ xs, v.oneCell' = true) := h1
  clear h h1
  go_enter Try.func26, Try.ntmps26
  go_wp2_with fail
  refine (begin_any B D ao n cap xs tag _ H.out (by omega)).mono ?_
  rintro e w1 ⟨rfl, ⟨ao1, cap1, hI1⟩, hB1⟩
  have HI1 : Hid (Inv B D w1 ao1 (n + 2) cap1 (xs ++ [.int .u8 tag, .int .u8 0])) := hI1
  have HB1 : Hid (Below B w w1) := hB1
  have hc1 := hI1.cellD
  clear hI1 hB1
  go_wp2_with (at_builtin; refine wpList_append_own_string _ rfl (.tmp 13) (.tmp 14) 39 9 rfl B 5 i0 Try.underlying39 Try.underlying9 hi hz0 hz1 hz2 _ (n + 2) _ rfl HI1.out.own s rfl ?c1 ?c2 ?c3 ?_)
  case c1 => unfold maxLen; omega
  case c2 => omega
  case c3 => exact HI1.out.leB
  intro v' w2 hown hgrow _
  obtain ⟨ao2, cap2, hv⟩ := own_slice hown
  rw [hv] at hown
  rw [hv]
  have hD := HI1.out.kept hgrow
  have hcD : w2.cell? ⟨D, 0, none⟩ = some (.slice ao1 (n + 2) cap1) := by rw [cell_of_row w2 D 0 _ 39 (0, 0) hD]; rfl
  have hfD : w2.frozen? ⟨D, 0, none⟩ = false := frozen_of_row w2 D 0 _ 39 hD
  have HI2 : Hid (Inv B D (w2.setCell ⟨D, 0, none⟩ (.slice ao2 (n + 2 + s.size) cap2)) ao2 (n + 2 + s.size) cap2 (xs ++ [.int .u8 tag, .int .u8 0] ++ strCells s)) := store_inv hD (by rw [List.append_assoc]; exact hown) HI1.out.le
  have HE2 : Hid (Below B w (w2.setCell ⟨D, 0, none⟩ (.slice ao2 (n + 2 + s.size) cap2))) := (HB1.out.trans (below_app HI1.out hgrow)).setCell HI1.out.le _
  clear hown hgrow hD hv hc1
  go_wp2_with fail
  obtain ⟨g, rfl⟩ := own_some HI2.out.own (by omega)
  rw [show ((n : Int) + 2) = ((n + 2 : Nat) : Int) from by omega]
  have hxl : xs.length = n := H.out.len
  by_cases hsh : s.size < 128
  · refine (end_short B D g (n + 2) s.size cap2 _ _ HI2.out (by omega) (by omega) hsh).mono ?_
    rintro e w3 ⟨rfl, ⟨ao3, cap3, hI3⟩, hB3⟩
    rw [row_short xs tag s n hxl hsh] at hI3
    have HI3 : Hid (Inv B D w3 ao3 (n + 2 + s.size) cap3 (xs ++ tlv tag s)) := hI3
    have HB3 : Hid (Below B w w3) := HE2.out.trans hB3
    clear hI3 hB3 hxl
    go_wp2_with fail
    go_end0
    exact ⟨rfl, ⟨ao3, _, cap3, HI3.out⟩, HB3.out⟩
  · refine (end_long B D g (n + 2) s.size cap2 _ _ HI2.out (by omega) (by omega) (by omega) hs (one_app (one_app H1.out (by intro v hv; simp at hv; rcases hv with rfl | rfl <;> rfl)) (strCells_oneCell s))).mono ?_
    rintro e w3 ⟨rfl, ⟨ao3, cap3, hI3⟩, hB3⟩
    rw [row_long xs tag s n hxl hsh] at hI3
    have HI3 : Hid (Inv B D w3 ao3 (n + 2 + s.size + sz s.size) cap3 (xs ++ tlv tag s)) := hI3
    have HB3 : Hid (Below B w w3) := HE2.out.trans hB3
    clear hI3 hB3 hxl
    go_wp2_with fail
    go_end0
    exact ⟨rfl, ⟨ao3, _, cap3, HI3.out⟩, HB3.out⟩

theorem zz_any (B : Nat) (ao : Option Addr) (n cap : Nat) (xs : List Value) (tag : Int) (s : ByteArray) (w : World) (ho : w.ownsRow B 5 1 (.slice ao n cap) n xs) (hB : B ≤ w.heap.size) (hn : n ≤ 1048576) (hs : s.size ≤ 1048576) (h1 : ∀ v ∈ xs, v.oneCell' = true) :
    Calls Try.prog 18 #[.slice ao n cap, .int .u8 tag, .string s] w fun e w' => ∃ ao' n' cap', e = .returned (.slice ao' n' cap') ∧ w'.ownsRow B 5 1 (.slice ao' n' cap') n' (xs ++ tlv tag s) ∧ Below B w w' := by
  have H : Hid (Inv B w.heap.size (w.alloc (.cells #[.slice ao n cap] 39)) ao n cap xs) := ⟨heap_alloc_new w _, ho.alloc _, hB⟩
  have H1 : Hid (∀ v ∈ xs, v.oneCell' = true) := h1
  clear ho h1
  go_enter Try.func18, Try.ntmps18
  go_wp2_with fail
  refine (add_any B w.heap.size ao n cap xs tag s _ H.out hn hs H1.out).mono ?_
  rintro e w1 ⟨rfl, ⟨ao1, n1, cap1, hI⟩, hb⟩
  have hc := hI.cellD
  have HO : Hid (w1.ownsRow B 5 1 (.slice ao1 n1 cap1) n1 (xs ++ tlv tag s)) := hI.own
  have HB : Hid (Below B w w1) := ((Below.refl B w).alloc hB _).trans hb
  clear hI hb
  go_wp2_with fail
  go_ret
  exact ⟨ao1, n1, cap1, rfl, HO.out, HB.out⟩
end Go.Proofs.Qxb6601770a.Walk
