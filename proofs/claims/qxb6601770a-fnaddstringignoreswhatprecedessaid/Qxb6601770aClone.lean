/-
  THE WALK of zzClone_certs_b1 (the seat b6601770a).
-/
import Derived.Test.Qxb6601770aRows
import Derived.WalkKit
import Derived.ProofKit
import Derived.Below
import Derived.Lib.SliceRun
namespace Go.Proofs.Qxb6601770a.Walk
open Go.RowKit
set_option linter.unusedVariables false

theorem info5 : (Try.prog.info? 5).map (fun i => (i.zero, i.size, i.bytes)) = some (some (.int .u8 0), 1, 1) := by kernel_rfl

/-- What is filled so far: the first k numbers, then zeros. -/
def filled (zs : List Int) (n k : Nat) : List Value := ((zs.take k).map (Value.int .u8)) ++ List.replicate (n - k) (.int .u8 0)
theorem filled_zero (zs : List Int) (n : Nat) : filled zs n 0 = List.replicate n (.int .u8 0) := by simp [filled]
theorem filled_len (zs : List Int) (n k : Nat) (hz : n ≤ zs.length) (hk : k ≤ n) : (filled zs n k).length = n := by simp [filled]; omega
theorem filled_set (zs : List Int) (n k : Nat) (hz : n ≤ zs.length) (hk : k < n) : (filled zs n k).set k (.int .u8 (zs.getD k 0)) = filled zs n (k + 1) := by
  have h1 : ((zs.take k).map (Value.int .u8)).length = k := by simp; omega
  have h2 : n - k = (n - (k + 1)) + 1 := by omega
  unfold filled
  rw [List.set_append_right _ _ (by omega), h1, Nat.sub_self, h2, List.replicate_succ, List.set_cons_zero]
  rw [List.take_succ_eq_append_getElem (by omega), List.map_append, List.append_assoc]
  simp [List.getD, show k < zs.length by omega]
theorem filled_full (zs : List Int) (n : Nat) : filled zs n n = (zs.take n).map (Value.int .u8) := by simp [filled]

/-- A nil slice: nil comes back. -/
theorem clone_nil (w : World) : Calls Try.prog 10 #[.slice none 0 0] w fun e w' => e = .returned (.slice none 0 0) ∧ w' = w := by
  have q22 : ∀ (w : World) (a : Option Addr) (n c n' c' : Nat), (binOp .eql 22 (.slice a n c) (.slice none n' c')).run Try.prog w = .ok (.bool a.isNone) w := fun w a n c n' c' => Lib.run_eql_slice_nil w _ _ a n c n' c' Try.underlying22
  go_enter Try.func10, Try.ntmps10
  go_wp2
  go_ret
  exact ⟨rfl, rfl⟩

/-- A slice that is not nil and holds nothing: an empty one comes back. -/
theorem clone_empty (x : Addr) (cap : Nat) (w : World) : Calls Try.prog 10 #[.slice (some x) 0 cap] w fun e w' => ∃ g, e = .returned (.slice (some ⟨g, 0, none⟩) 0 0) ∧ w'.ownsRow w.heap.size 5 1 (.slice (some ⟨g, 0, none⟩) 0 0) 0 [] ∧ Below w.heap.size w w' := by
  have q22 : ∀ (w : World) (a : Option Addr) (n c n' c' : Nat), (binOp .eql 22 (.slice a n c) (.slice none n' c')).run Try.prog w = .ok (.bool a.isNone) w := fun w a n c n' c' => Lib.run_eql_slice_nil w _ _ a n c n' c' Try.underlying22
  obtain ⟨i0, hi, hz0, hz1, hz2⟩ := info_parts info5
  go_enter Try.func10, Try.ntmps10
  go_wp2_with (at_make; refine wpList_make_full _ rfl _ _ 22 rfl w.heap.size 5 i0 (.int .u8 0) 1 Try.underlying22 hi hz0 hz1 _ _ _ _ 0 rfl rfl rfl rfl (by simp) (by simp) (Nat.le_refl _) ?_)
  intro w1 hown hgrow
  have HB : Hid (Below w.heap.size w w1) := (Below.refl _ _).grown hgrow (Nat.le_refl _) (fun k e => by cases e)
  have HW : Hid (w1.ownsRow w.heap.size 5 1 (.slice (some ⟨w.heap.size, 0, none⟩) 0 0) 0 []) := by
    rw [toList_madeCells_one] at hown
    exact hown
  clear hown hgrow
  go_wp2
  go_loop [4] (fun i => i = .int .i64 0) (fun _ => 0)
  case atStart => rfl
  case round =>
    subst hrel
    go_wp2
    go_ret
    exact ⟨w.heap.size, rfl, HW.out, HB.out⟩

/-- A slice of len > 0 numbers: a new row with the same numbers. -/
theorem clone_some (b off len cap : Nat) (zs : List Int) (w : World) (h20 : len ≤ 1048576) (hpos : 0 < len) (hz : len ≤ zs.length)
    (hc : ∀ i, i < len → w.cell? ⟨b, off + i, none⟩ = some (.int .u8 (zs.getD i 0))) :
    Calls Try.prog 10 #[.slice (some ⟨b, off, none⟩) len cap] w fun e w' => ∃ g, e = .returned (.slice (some ⟨g, 0, none⟩) len len) ∧
      w'.ownsRow w.heap.size 5 1 (.slice (some ⟨g, 0, none⟩) len len) len ((zs.take len).map (Value.int .u8)) ∧ Below w.heap.size w w' := by
  have q22 : ∀ (w : World) (a : Option Addr) (n c n' c' : Nat), (binOp .eql 22 (.slice a n c) (.slice none n' c')).run Try.prog w = .ok (.bool a.isNone) w := fun w a n c n' c' => Lib.run_eql_slice_nil w _ _ a n c n' c' Try.underlying22
  obtain ⟨i0, hi, hz0, hz1, hz2⟩ := info_parts info5
  have hb : b < w.heap.size := World.block_lt_of_cell? w ⟨b, off + 0, none⟩ (hc 0 hpos)
  have hmk : i0.bytes * len ≤ 281474976710656 := by rw [hz2]; omega
  have hmax : len ≤ maxLen := by unfold maxLen; omega
  have HC : Hid (∀ i, i < len → w.cell? ⟨b, off + i, none⟩ = some (.int .u8 (zs.getD i 0))) := hc
  clear hc
  go_enter Try.func10, Try.ntmps10
  go_wp2_with (at_make; refine wpList_make_full _ rfl _ _ 22 rfl w.heap.size 5 i0 (.int .u8 0) 1 Try.underlying22 hi hz0 hz1 _ _ _ _ len rfl rfl rfl rfl hmk hmax (Nat.le_refl _) ?_)
  intro w1 hown hgrow
  have hown1 : w1.ownsRow w.heap.size 5 1 (.slice (some ⟨w.heap.size, 0, none⟩) len len) len (filled zs len 0) := by
    rw [filled_zero]
    rw [toList_madeCells_one] at hown
    exact hown
  have hbel : Below w.heap.size w w1 := (Below.refl _ _).grown hgrow (Nat.le_refl _) (fun k e => by cases e)
  clear hown hgrow
  go_wp2
  go_loopw [4] (fun i wr => ∃ k : Nat, k ≤ len ∧ i = .int .i64 k ∧ wr.ownsRow w.heap.size 5 1 (.slice (some ⟨w.heap.size, 0, none⟩) len len) len (filled zs len k) ∧ Below w.heap.size w wr) (fun i _ => len - (intOf i).toNat)
  case atStart => exact ⟨0, Nat.zero_le _, rfl, hown1, hbel⟩
  case round =>
    obtain ⟨k, hk, rfl, hown, hnx⟩ := hrel
    by_cases hlt : k < len
    · have hcx : wr.cell? ⟨b, off + k, none⟩ = some (.int .u8 (zs.getD k 0)) := (hnx.cell (by exact hb)).trans (HC.out k hlt)
      obtain ⟨v0, hold⟩ : ∃ v0, wr.cell? ⟨w.heap.size, k, none⟩ = some v0 := by
        rw [hown.cellAt k (by omega)]
        exact ⟨_, List.getElem?_eq_getElem (by rw [filled_len zs len k hz (by omega)]; exact hlt)⟩
      have hfr := hown.frozenAt k
      have HO : Hid ((wr.setCell ⟨w.heap.size, k, none⟩ (.int .u8 (zs.getD k 0))).ownsRow w.heap.size 5 1 (.slice (some ⟨w.heap.size, 0, none⟩) len len) len (filled zs len (k + 1))) := by
        have := (hown.stored k (.int .u8 (zs.getD k 0))).1
        rw [filled_set zs len k hz hlt] at this
        exact this
      have HB : Hid (Below w.heap.size w (wr.setCell ⟨w.heap.size, k, none⟩ (.int .u8 (zs.getD k 0)))) := hnx.setCell (Nat.le_refl _) _
      clear hown hnx hown1 hbel
      go_wp2
      go_roundw
      case rel => exact ⟨k + 1, by omega, by go_num, HO.out, HB.out⟩
      case measure => simp [intOf]; omega
    · obtain rfl : k = len := by omega
      go_wp2
      go_ret
      exact ⟨w.heap.size, rfl, by rw [← filled_full]; exact hown, hnx⟩

/-- A row of bytes that can be read: nil; or an address, and where there are bytes they lie there. -/
def Reads (w : World) (a : Option Addr) (len cap : Nat) (zs : List Int) : Prop :=
  len ≤ zs.length ∧ ((a = none ∧ len = 0 ∧ cap = 0) ∨ ∃ x, a = some x ∧ (0 < len → ∃ b off, x = ⟨b, off, none⟩ ∧ ∀ i, i < len → w.cell? ⟨b, off + i, none⟩ = some (.int .u8 (zs.getD i 0))))

/-- zzClone, at whatever slice: what comes back owns the same bytes. -/
theorem clone_any (a : Option Addr) (len cap : Nat) (zs : List Int) (w : World) (h20 : len ≤ 1048576) (hr : Reads w a len cap zs) :
    Calls Try.prog 10 #[.slice a len cap] w fun e w' => ∃ v, e = .returned v ∧ w'.ownsRow w.heap.size 5 1 v len ((zs.take len).map (Value.int .u8)) ∧ Below w.heap.size w w' := by
  obtain ⟨hz, ⟨rfl, rfl, rfl⟩ | ⟨x, rfl, hx⟩⟩ := hr
  · refine (clone_nil w).mono ?_
    rintro e w' ⟨rfl, rfl⟩
    exact ⟨_, rfl, World.ownsRow_nil _ _ _ _, Below.refl _ _⟩
  · by_cases hpos : 0 < len
    · obtain ⟨b, off, rfl, hc⟩ := hx hpos
      refine (clone_some b off len cap zs w h20 hpos hz hc).mono ?_
      rintro e w' ⟨g, rfl, ho, hb⟩
      exact ⟨_, rfl, ho, hb⟩
    · obtain rfl : len = 0 := by omega
      refine (clone_empty x cap w).mono ?_
      rintro e w' ⟨g, rfl, ho, hb⟩
      exact ⟨_, rfl, ho, hb⟩
end Go.Proofs.Qxb6601770a.Walk
