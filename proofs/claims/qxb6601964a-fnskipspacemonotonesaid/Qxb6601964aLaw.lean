/-
  THE WALK of the law FnSkipSpaceMonotone (the seat b6601964a), out of the contracts.
-/
import Derived.Test.Qxb6601964aClone
import Derived.Test.Qxb6601964aSkip
namespace Go.Proofs.Qxb6601964a.Walk
open Go.RowKit
set_option linter.unusedVariables false

/-- zzBytes: the length's bound. -/
theorem bytes_yes (ao : Option Addr) (len cap : Nat) (p q : Int) (w : World) (h : len ≤ 1048576) :
    Calls Try.prog 16 #[.slice ao len cap, .int .i64 p, .int .i64 q] w fun e w' => e = .returned (.bool true) ∧ w' = w := by
  go_enter Try.func16, Try.ntmps16
  go_wp2
  go_ret
  exact ⟨rfl, rfl⟩
theorem bytes_no (ao : Option Addr) (len cap : Nat) (p q : Int) (w : World) (h : 1048576 < len) :
    Calls Try.prog 16 #[.slice ao len cap, .int .i64 p, .int .i64 q] w fun e w' => e = .returned (.bool false) ∧ w' = w := by
  go_enter Try.func16, Try.ntmps16
  go_wp2
  go_ret
  exact ⟨rfl, rfl⟩

/-- The bound is passed: true at once. -/
theorem law_long (ao : Option Addr) (len cap : Nat) (p q : Int) (w : World) (h : 1048576 < len) :
    Calls Try.prog 5 #[.slice ao len cap, .int .i64 p, .int .i64 q] w fun e w' => e = .returned (.bool true) ∧ w' = w := by
  go_enter Try.func5, Try.ntmps5
  go_wp2_with fail
  refine (bytes_no ao len cap p q _ h).mono ?_
  rintro e w' ⟨rfl, rfl⟩
  go_wp2
  go_ret
  exact ⟨rfl, rfl⟩

/-- A start that the law does not speak of: true at once. -/
theorem law_out (ao : Option Addr) (len cap : Nat) (p q : Int) (w : World) (h : len ≤ 1048576) (hout : p < 0 ∨ q < 0 ∨ q < p) :
    Calls Try.prog 5 #[.slice ao len cap, .int .i64 p, .int .i64 q] w fun e w' => e = .returned (.bool true) ∧ w' = w := by
  by_cases h1 : p < 0
  · clear hout
    go_enter Try.func5, Try.ntmps5
    go_wp2_with fail
    refine (bytes_yes ao len cap p q _ h).mono ?_
    rintro e w' ⟨rfl, rfl⟩
    go_wp2
    go_ret
    exact ⟨rfl, rfl⟩
  · by_cases h2 : q < 0
    · clear hout
      go_enter Try.func5, Try.ntmps5
      go_wp2_with fail
      refine (bytes_yes ao len cap p q _ h).mono ?_
      rintro e w' ⟨rfl, rfl⟩
      go_wp2
      go_ret
      exact ⟨rfl, rfl⟩
    · have h3 : q < p := by omega
      clear hout
      go_enter Try.func5, Try.ntmps5
      go_wp2_with fail
      refine (bytes_yes ao len cap p q _ h).mono ?_
      rintro e w' ⟨rfl, rfl⟩
      go_wp2
      go_ret
      exact ⟨rfl, rfl⟩

/-- A nil block. -/
theorem law_nil (p q : Int) (w : World) (h1 : 0 ≤ p) (h2 : 0 ≤ q) (h3 : p ≤ q) :
    Calls Try.prog 5 #[.slice none 0 0, .int .i64 p, .int .i64 q] w fun e w' => e = .returned (.bool true) ∧ Below w.heap.size w w' := by
  go_enter Try.func5, Try.ntmps5
  go_wp2_with fail
  refine (bytes_yes none 0 0 p q _ (by omega)).mono ?_
  rintro e w' ⟨rfl, rfl⟩
  go_wp2_with fail
  refine (clone_nil _).mono ?_
  rintro e w' ⟨rfl, rfl⟩
  go_wp2_with fail
  refine (zz_empty none 0 [] p _ h1).mono ?_
  rintro e w1 ⟨sp, rfl, hs1, hb1⟩
  have k1 := hs1.le
  have HB1 : Hid (Below w'.heap.size w' w1) := hb1
  clear hb1
  go_wp2_with fail
  refine (zz_empty none 0 [] q _ h2).mono ?_
  rintro e w2 ⟨sq, rfl, hs2, hb2⟩
  have k2 := hs2.le
  have k3 := hs1.mono hs2 h3
  have HB2 : Hid (Below w1.heap.size w1 w2) := hb2
  clear hb2 hs1 hs2
  go_wp2
  go_ret
  exact ⟨rfl, HB1.out.trans (HB2.out.mono HB1.out.size)⟩

/-- A block that is not nil and holds nothing. -/
theorem law_empty (x : Addr) (cap : Nat) (p q : Int) (w : World) (h1 : 0 ≤ p) (h2 : 0 ≤ q) (h3 : p ≤ q) :
    Calls Try.prog 5 #[.slice (some x) 0 cap, .int .i64 p, .int .i64 q] w fun e w' => e = .returned (.bool true) ∧ Below w.heap.size w w' := by
  go_enter Try.func5, Try.ntmps5
  go_wp2_with fail
  refine (bytes_yes (some x) 0 cap p q _ (by omega)).mono ?_
  rintro e w' ⟨rfl, rfl⟩
  go_wp2_with fail
  refine (clone_empty x cap _).mono ?_
  rintro e w0 ⟨⟨g, rfl⟩, hb0⟩
  have HB0 : Hid (Below w'.heap.size w' w0) := hb0
  clear hb0
  go_wp2_with fail
  refine (zz_empty _ 0 [] p _ h1).mono ?_
  rintro e w1 ⟨sp, rfl, hs1, hb1⟩
  have k1 := hs1.le
  have HB1 : Hid (Below w0.heap.size w0 w1) := hb1
  clear hb1
  go_wp2_with fail
  refine (zz_empty _ 0 [] q _ h2).mono ?_
  rintro e w2 ⟨sq, rfl, hs2, hb2⟩
  have k2 := hs2.le
  have k3 := hs1.mono hs2 h3
  have HB2 : Hid (Below w1.heap.size w1 w2) := hb2
  clear hb2 hs1 hs2
  go_wp2
  go_ret
  exact ⟨rfl, (HB0.out.trans (HB1.out.mono HB0.out.size)).trans (HB2.out.mono (Nat.le_trans HB0.out.size HB1.out.size))⟩

/-- A block of bytes. -/
theorem law_some (b off len cap : Nat) (zs : List Int) (p q : Int) (w : World) (h20 : len ≤ 1048576) (hpos : 0 < len) (hz : len ≤ zs.length) (h1 : 0 ≤ p) (h2 : 0 ≤ q) (h3 : p ≤ q) (hp1 : p ≤ 9223372036854775807) (hq1 : q ≤ 9223372036854775807)
    (hc : ∀ i, i < len → w.cell? ⟨b, off + i, none⟩ = some (.int .u8 (zs.getD i 0))) :
    Calls Try.prog 5 #[.slice (some ⟨b, off, none⟩) len cap, .int .i64 p, .int .i64 q] w fun e w' => e = .returned (.bool true) ∧ Below w.heap.size w w' := by
  have HC : Hid (∀ i, i < len → w.cell? ⟨b, off + i, none⟩ = some (.int .u8 (zs.getD i 0))) := hc
  clear hc
  go_enter Try.func5, Try.ntmps5
  go_wp2_with fail
  refine (bytes_yes _ len cap p q _ h20).mono ?_
  rintro e w' ⟨rfl, rfl⟩
  go_wp2_with fail
  refine (clone_some b off len cap zs _ h20 hpos hz HC.out).mono ?_
  rintro e w0 ⟨g, rfl, hown, hb0⟩
  have HB0 : Hid (Below w'.heap.size w' w0) := hb0
  have hg : g < w0.heap.size := (hown.lt g rfl).2
  have HC0 : Hid (∀ i, i < len → w0.cell? ⟨g, 0 + i, none⟩ = some (.int .u8 (zs.getD i 0))) := by
    intro i hi
    rw [Nat.zero_add, hown.cellAt i (by omega)]
    simp [List.getD, hi, show i < zs.length by omega]
  clear hb0 hown
  go_wp2_with fail
  refine (zz_any g 0 len len zs p _ h20 h1 hp1 HC0.out hg).mono ?_
  rintro e w1 ⟨sp, rfl, hs1, hb1⟩
  have k1 := hs1.le
  have HB1 : Hid (Below w0.heap.size w0 w1) := hb1
  have hg1 : g < w1.heap.size := Nat.lt_of_lt_of_le hg hb1.size
  have HC1 : Hid (∀ i, i < len → w1.cell? ⟨g, 0 + i, none⟩ = some (.int .u8 (zs.getD i 0))) := fun i hi => (hb1.cell (by exact hg)).trans (HC0.out i hi)
  clear hb1
  go_wp2_with fail
  refine (zz_any g 0 len len zs q _ h20 h2 hq1 HC1.out hg1).mono ?_
  rintro e w2 ⟨sq, rfl, hs2, hb2⟩
  have k2 := hs2.le
  have k3 := hs1.mono hs2 h3
  have HB2 : Hid (Below w1.heap.size w1 w2) := hb2
  clear hb2 hs1 hs2
  go_wp2
  go_ret
  exact ⟨rfl, (HB0.out.trans (HB1.out.mono HB0.out.size)).trans (HB2.out.mono (Nat.le_trans HB0.out.size HB1.out.size))⟩
end Go.Proofs.Qxb6601964a.Walk
