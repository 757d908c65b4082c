/-
  THE WALK of the law FnAddStringIgnoresWhatPrecedes (the seat b6601770a), out of the contracts.
-/
import Derived.Test.Qxb6601770aCat
namespace Go.Proofs.Qxb6601770a.Walk
open Go Go.RowKit Go.Lib
set_option linter.unusedVariables false

theorem bytes_yes (ao : Option Addr) (len cap : Nat) (tag : Int) (s : ByteArray) (w : World) (h : len + s.size ≤ 1048576) :
    Calls Try.prog 22 #[.slice ao len cap, .int .u8 tag, .string s] w fun e w' => e = .returned (.bool true) ∧ w' = w := by
  go_enter Try.func22, Try.ntmps22
  go_wp2
  go_ret
  exact ⟨rfl, rfl⟩
theorem bytes_no (ao : Option Addr) (len cap : Nat) (tag : Int) (s : ByteArray) (w : World) (h : 1048576 < len + s.size) (hc : len ≤ 9223372036854775807) (hs : s.size ≤ 9223372036854775807) :
    Calls Try.prog 22 #[.slice ao len cap, .int .u8 tag, .string s] w fun e w' => e = .returned (.bool false) ∧ w' = w := by
  by_cases h1 : 1048576 < len
  · go_enter Try.func22, Try.ntmps22
    go_wp2
    go_ret
    exact ⟨rfl, rfl⟩
  · by_cases h2 : 1048576 < s.size
    · go_enter Try.func22, Try.ntmps22
      go_wp2
      go_ret
      exact ⟨rfl, rfl⟩
    · go_enter Try.func22, Try.ntmps22
      go_wp2
      go_ret
      exact ⟨rfl, rfl⟩

/-- The bound is passed: true at once. -/
theorem law_long (ao : Option Addr) (len cap : Nat) (tag : Int) (s : ByteArray) (w : World) (h : 1048576 < len + s.size) (hc : len ≤ 9223372036854775807) (hs : s.size ≤ 9223372036854775807) :
    Calls Try.prog 7 #[.slice ao len cap, .int .u8 tag, .string s] w fun e w' => e = .returned (.bool true) ∧ w' = w := by
  go_enter Try.func7, Try.ntmps7
  go_wp2_with fail
  refine (bytes_no ao len cap tag s _ h hc hs).mono ?_
  rintro e w' ⟨rfl, rfl⟩
  go_wp2
  go_ret
  exact ⟨rfl, rfl⟩

/-- The element is a list of bytes, not longer than the string and five more. -/
theorem tlv_ints (tag : Int) (s : ByteArray) (hs : s.size ≤ 1048576) : ∃ ts : List Int, tlv tag s = ts.map (Value.int .u8) ∧ ts.length ≤ s.size + 5 := by
  have hc : strCells s = (s.data.toList.map fun b => (b.toNat : Int)).map (Value.int .u8) := by simp [strCells]
  have hl : s.data.toList.length = s.size := by simp
  unfold tlv
  split
  · refine ⟨[tag, (s.size : Int)] ++ s.data.toList.map (fun b => (b.toNat : Int)), by rw [hc]; simp, by simp⟩
  · have h3 := sz_le s.size
    refine ⟨[tag, 128 + (sz s.size : Int)] ++ (List.range (sz s.size)).map (fun i => bt s.size (sz s.size) i) ++ s.data.toList.map (fun b => (b.toNat : Int)), by rw [hc]; simp [ext], by simp; omega⟩

theorem ints_one (zs : List Int) : ∀ v ∈ zs.map (Value.int .u8), v.oneCell' = true := ints_oneCell .u8 zs

/-- A row that is owned can be cloned. -/
theorem reads_of_src {w : World} {ao : Option Addr} {n cap : Nat} {zs : List Int} (h : Src w ao n cap (zs.map (Value.int .u8))) : Reads w ao n cap zs := by
  have hl : zs.length = n := by simpa using h.1
  refine ⟨by omega, ?_⟩
  rcases h.2 with h | ⟨g, rfl, _, hc⟩
  · exact .inl h
  · refine .inr ⟨_, rfl, fun _ => ⟨g, 0, rfl, fun i hi => ?_⟩⟩
    rw [Nat.zero_add]
    exact hc i _ (by simp [List.getD, show i < zs.length by omega])

set_option maxHeartbeats 400000 in
/-- Inside the bound. -/
theorem law_main (a : Option Addr) (len cap : Nat) (zs : List Int) (tag : Int) (s : ByteArray) (w : World) (h : len + s.size ≤ 1048576) (hr : Reads w a len cap zs) :
    Calls Try.prog 7 #[.slice a len cap, .int .u8 tag, .string s] w fun e w' => e = .returned (.bool true) ∧ Below w.heap.size w w' := by
  obtain ⟨ts, hts, htl⟩ := tlv_ints tag s (by omega)
  have HT : Hid (tlv tag s = ts.map (Value.int .u8)) := hts
  have HR : Hid (Reads w a len cap zs) := hr
  obtain ⟨Z, hZ⟩ : ∃ Z, Z = zs.take len := ⟨_, rfl⟩
  have HZ : Hid (Z = zs.take len) := hZ
  have HL : Hid (Z.length = len) := by show _ = _; rw [hZ]; have := hr.1; simp; omega
  clear hts hr hZ
  go_enter Try.func7, Try.ntmps7
  go_wp2_with fail
  refine (bytes_yes a len cap tag s _ h).mono ?_
  rintro e w' ⟨rfl, rfl⟩
  go_wp2_with fail
  refine (clone_any a len cap zs _ (by omega) HR.out).mono ?_
  rintro e w1 ⟨v1, rfl, ho1, hb1⟩
  rw [← HZ.out] at ho1
  obtain ⟨ao1, cap1, hv⟩ := own_slice ho1
  rw [hv] at ho1
  rw [hv]
  have HB1 : Hid (Below w'.heap.size w' w1) := hb1
  have HS1 : Hid (Src w1 ao1 len cap1 (Z.map (Value.int .u8))) := src_of_own ho1
  clear ho1 hb1 hv
  go_wp2_with fail
  refine (clone_any ao1 len cap1 Z _ (by omega) (reads_of_src HS1.out)).mono ?_
  rintro e w2 ⟨v2, rfl, ho2, hb2⟩
  rw [List.take_of_length_le (by rw [HL.out]; exact Nat.le_refl _)] at ho2
  obtain ⟨ao2, cap2, hv⟩ := own_slice ho2
  rw [hv] at ho2
  rw [hv]
  have HB2 : Hid (Below w1.heap.size w1 w2) := hb2
  have HO2 : Hid (w2.ownsRow w1.heap.size 5 1 (.slice ao2 len cap2) len (Z.map (Value.int .u8))) := ho2
  clear ho2 hb2 hv
  go_wp2_with fail
  refine (zz_any w1.heap.size ao2 len cap2 _ tag s _ HO2.out HB2.out.size (by omega) (by omega) (ints_one Z)).mono ?_
  rintro e w3 ⟨ao3, n3, cap3, rfl, ho3, hb3⟩
  have HB3 : Hid (Below w1.heap.size w1 w3) := HB2.out.trans hb3
  have HS3 : Hid (Src w3 ao3 n3 cap3 ((Z ++ ts).map (Value.int .u8))) := by
    have := src_of_own ho3
    rw [HT.out, ← List.map_append] at this
    exact this
  clear ho3 hb3
  go_wp2_with fail
  refine (zz_any w3.heap.size none 0 0 [] tag s _ (World.ownsRow_nil _ _ _ _) (Nat.le_refl _) (by omega) (by omega) (by intro v hv; cases hv)).mono ?_
  rintro e w4 ⟨ao4, n4, cap4, rfl, ho4, hb4⟩
  have HB4 : Hid (Below w3.heap.size w3 w4) := hb4
  have HS4 : Hid (Src w4 ao4 n4 cap4 (ts.map (Value.int .u8))) := by
    have := src_of_own ho4
    rw [HT.out, List.nil_append] at this
    exact this
  have hn4 : n4 ≤ 4194304 := by have := HS4.out.1; simp at this; omega
  clear ho4 hb4
  go_wp2_with fail
  refine (cat_any ao1 ao4 len n4 cap1 cap4 _ _ _ ((HS1.out.below HB3.out).below HB4.out) HS4.out (ints_one Z) (ints_one ts) (by omega) hn4).mono ?_
  rintro e w5 ⟨g, rfl, ho5, hb5⟩
  have HB5 : Hid (Below w4.heap.size w4 w5) := hb5
  have HS5 : Hid (Src w5 (some ⟨g, 0, none⟩) (len + n4) (len + n4) ((Z ++ ts).map (Value.int .u8))) := by
    have := src_of_own ho5
    rw [← List.map_append] at this
    exact this
  clear ho5 hb5
  go_wp2_with fail
  obtain rfl : n3 = len + n4 := by
    have e3 := HS3.out.1
    have e5 := HS5.out.1
    omega
  refine (eq_same ao3 (some ⟨g, 0, none⟩) (len + n4) cap3 (len + n4) (Z ++ ts) _ ((HS3.out.below HB4.out).below HB5.out) HS5.out (by omega)).mono ?_
  rintro e w6 ⟨rfl, q, rfl⟩
  go_wp2_with fail
  go_ret
  have s1 := HB1.out.size
  have s3 := HB3.out.size
  have s4 := HB4.out.size
  exact ⟨rfl, ((((HB1.out.trans (HB3.out.mono s1)).trans (HB4.out.mono (Nat.le_trans s1 s3))).trans (HB5.out.mono (Nat.le_trans s1 (Nat.le_trans s3 s4)))).trans ⟨rfl, rfl, rfl, Nat.le_refl _, fun _ _ => rfl⟩)⟩
end Go.Proofs.Qxb6601770a.Walk
