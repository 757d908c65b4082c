/-
  THE WALKS of the seat b6602176a: a contract for each function on the road, leaves first.
-/
import Derived.Test.Qxb6602176aRows
import Derived.Test.Qxb6602176aPlain
import Derived.WalkKit
import Derived.ProofKit
import Derived.ShutString
namespace Go.Proofs.Qxb6602176a.Walk
open Go.RowKit
open Go.Proofs.Qxb6602176a.Plain
set_option linter.unusedVariables false

theorem take_snoc (s : ByteArray) (k : Nat) (h : k < s.size) : s.data.toList.take (k + 1) = s.data.toList.take k ++ [s[k]] := by
  rw [List.take_succ_eq_append_getElem (by simpa using h)]; rfl
theorem drop_cons (s : ByteArray) (k : Nat) (h : k < s.size) : s.data.toList.drop k = s[k] :: s.data.toList.drop (k + 1) := by
  rw [List.drop_eq_getElem_cons (by simpa using h)]; rfl
theorem drop_end (s : ByteArray) (k : Nat) (h : s.size ≤ k) : s.data.toList.drop k = [] := by
  rw [List.drop_eq_nil_iff]; simpa using h
theorem u8_eq {a b : UInt8} (h : ((a.toNat : Int) == (b.toNat : Int)) = true) : a = b := by
  simp at h; exact UInt8.toNat_inj.1 (by omega)
theorem u8_ne {a b : UInt8} (h : ((a.toNat : Int) == (b.toNat : Int)) = false) : a ≠ b := by
  intro e; subst e; simp at h

/-- Does the text hold the byte? -/
def hasB (s : ByteArray) (c : UInt8) : Bool := s.data.toList.contains c
theorem hasB_at (s : ByteArray) (c : UInt8) (k : Nat) (h : k < s.size) (e : s[k] = c) : hasB s c = true := by
  unfold hasB
  have : c ∈ s.data.toList := by rw [← e]; exact Array.mem_toList_iff.2 (Array.getElem_mem _)
  simpa using this
theorem hasB_not (s : ByteArray) (c : UInt8) (k : Nat) (h : s.size ≤ k) (e : c ∉ s.data.toList.take k) : hasB s c = false := by
  unfold hasB
  rw [List.take_of_length_le (by simpa using h)] at e
  simpa using e

/-- b1IndexOf: a number that is not negative exactly where the text holds the byte. -/
theorem index_any (s : ByteArray) (c : UInt8) (w : World) (hs : s.size ≤ maxLen) :
    Calls Try.prog 13 #[.string s, .int .u8 (c.toNat : Int)] w fun e w' => ∃ r : Int, e = .returned (.int .i64 r) ∧ (0 ≤ r ↔ hasB s c = true) ∧ w' = w := by
  unfold maxLen at hs
  go_enter Try.func13, Try.ntmps13
  go_wp2
  go_loop [5] (fun i => ∃ k : Nat, k ≤ s.size ∧ i = .int .i64 k ∧ Hid (c ∉ s.data.toList.take k)) (fun i => s.size - (intOf i).toNat)
  case atStart => exact ⟨0, Nat.zero_le _, rfl, by show c ∉ _; simp⟩
  case round =>
    obtain ⟨k, hk, rfl, HN⟩ := hrel
    by_cases hlt : k < s.size
    · have HT : Hid (s.data.toList.take (k + 1) = s.data.toList.take k ++ [s[k]]) := take_snoc s k hlt
      go_wp2
      · have hc : ((s[k].toNat : Int) == (c.toNat : Int)) = true := by assumption
        go_ret
        exact ⟨(k : Int), rfl, ⟨fun _ => hasB_at s c k hlt (u8_eq hc), fun _ => by omega⟩, rfl⟩
      · have hc : ((s[k].toNat : Int) == (c.toNat : Int)) = false := by assumption
        go_round
        case rel =>
          refine ⟨k + 1, by omega, by go_num, ?_⟩
          show c ∉ _
          rw [HT.out]
          simp only [List.mem_append, List.mem_singleton, not_or]
          exact ⟨HN, fun e => u8_ne hc e.symm⟩
        case measure => simp [intOf]; omega
    · go_wp2
      go_ret
      exact ⟨(-1 : Int), rfl, ⟨fun h => absurd h (by omega), fun h => by rw [hasB_not s c k (by omega) HN.out] at h; cases h⟩, rfl⟩

def lowerS : ByteArray := ⟨#[48, 49, 50, 51, 52, 53, 54, 55, 56, 57, 97, 98, 99, 100, 101, 102]⟩
def upperS : ByteArray := ⟨#[48, 49, 50, 51, 52, 53, 54, 55, 56, 57, 65, 66, 67, 68, 69, 70]⟩
theorem hasB_lower (c : UInt8) : hasB lowerS c = lowerL.contains c := rfl
theorem hasB_upper (c : UInt8) : hasB upperS c = upperL.contains c := rfl

/-- b1HexVal: negative exactly where the byte is no hex digit. -/
theorem hexval_any (c : UInt8) (w : World) :
    Calls Try.prog 27 #[.int .u8 (c.toNat : Int)] w fun e w' => ∃ r : Int, e = .returned (.int .i64 r) ∧ (r < 0 ↔ hexB c = false) ∧ w' = w := by
  go_enter Try.func27, Try.ntmps27
  go_wp2_with fail
  refine (index_any lowerS c _ (by decide)).mono ?_
  rintro e w' ⟨r, rfl, hr, rfl⟩
  have HR : Hid (0 ≤ r ↔ hasB lowerS c = true) := hr
  clear hr
  by_cases h0 : 0 ≤ r
  · go_wp2_with fail
    go_ret
    refine ⟨r, rfl, ⟨fun h => absurd h (by omega), fun h => ?_⟩, rfl⟩
    have h1 := HR.out.1 h0
    rw [hasB_lower] at h1
    rw [hex_mem, h1] at h
    cases h
  · go_wp2_with fail
    refine (index_any upperS c _ (by decide)).mono ?_
    rintro e w' ⟨q, rfl, hq, rfl⟩
    have HQ : Hid (0 ≤ q ↔ hasB upperS c = true) := hq
    clear hq
    go_wp2_with fail
    go_ret
    refine ⟨q, rfl, ?_, rfl⟩
    have h1 : lowerL.contains c = false := by
      rw [← hasB_lower]
      cases h : hasB lowerS c with
      | false => rfl
      | true => exact absurd (HR.out.2 h) (by omega)
    have h2 := HQ.out
    rw [hasB_upper] at h2
    rw [hex_mem, h1]
    cases h3 : upperL.contains c with
    | false => rw [h3] at h2; simp at h2 ⊢; omega
    | true => rw [h3] at h2; simp at h2 ⊢; omega

/-- b1UUIDGroupLen at the groups that are met. -/
theorem glen_any (g : Nat) (hg : g ≤ 4) (w : World) :
    Calls Try.prog 26 #[.int .i64 (g : Int)] w fun e w' => e = .returned (.int .i64 (glen g : Int)) ∧ w' = w := by
  match g, hg with
  | 0, _ => go_enter Try.func26, Try.ntmps26; go_wp2; go_ret; exact ⟨rfl, rfl⟩
  | 1, _ => go_enter Try.func26, Try.ntmps26; go_wp2; go_ret; exact ⟨rfl, rfl⟩
  | 2, _ => go_enter Try.func26, Try.ntmps26; go_wp2; go_ret; exact ⟨rfl, rfl⟩
  | 3, _ => go_enter Try.func26, Try.ntmps26; go_wp2; go_ret; exact ⟨rfl, rfl⟩
  | 4, _ => go_enter Try.func26, Try.ntmps26; go_wp2; go_ret; exact ⟨rfl, rfl⟩
end Go.Proofs.Qxb6602176a.Walk
