/-
  THE WALKS of the seat b6602176a, more: validUUID and the model.
-/
import Derived.Test.Qxb6602176aWalks
namespace Go.Proofs.Qxb6602176a.Walk
open Go.RowKit
open Go.Proofs.Qxb6602176a.Plain
set_option linter.unusedVariables false

def validB (s : ByteArray) : Bool := vfrom s.data.toList 0
theorem validB_short (s : ByteArray) (h : ¬ s.size = 36) : validB s = false := vfrom_short _ (by simpa using h)

/-- One round: the byte stands where it may: what is left decides. -/
theorem valid_go (s : ByteArray) (k : Nat) (h36 : s.size = 36) (h : k < s.size) (ok : okAt k s[k] = true) (e : vfrom (s.data.toList.drop k) k = validB s) :
    vfrom (s.data.toList.drop (k + 1)) (k + 1) = validB s := by
  rw [← e, drop_cons s k h, vfrom, if_pos ⟨by omega, ok⟩]
theorem valid_no (s : ByteArray) (k : Nat) (h : k < s.size) (ok : okAt k s[k] = false) (e : vfrom (s.data.toList.drop k) k = validB s) : validB s = false := by
  rw [← e, drop_cons s k h, vfrom, if_neg (by simp [ok])]
theorem valid_end (s : ByteArray) (k : Nat) (h36 : s.size = 36) (hk : k ≤ s.size) (h : ¬ k < s.size) (e : vfrom (s.data.toList.drop k) k = validB s) : validB s = true := by
  rw [← e, drop_end s k (by omega), vfrom]
  simp; omega
theorem ret_bool {a b : Bool} (h : a = b) : Ending.returned (.bool a) = .returned (.bool b) := by rw [h]

/-- The byte's tests as the walk shows them. -/
theorem ok_dash {k : Nat} {c : UInt8} (hd : dashAt k = true) (h : (c.toNat : Int) = 45) : okAt k c = true := by
  unfold okAt; rw [if_pos hd]
  have : c = 45 := UInt8.toNat_inj.1 (by show c.toNat = 45; omega)
  simp [this]
theorem no_dash {k : Nat} {c : UInt8} (hd : dashAt k = true) (h : ¬ (c.toNat : Int) = 45) : okAt k c = false := by
  unfold okAt; rw [if_pos hd]
  have : c ≠ 45 := fun e => h (by rw [e]; rfl)
  simpa using this
theorem ok_hex {k : Nat} {c : UInt8} (hd : dashAt k = false) : okAt k c = hexB c := by
  unfold okAt; rw [hd]; rfl
theorem hexB_iff (c : UInt8) : hexB c = true ↔ (48 ≤ (c.toNat : Int) ∧ (c.toNat : Int) ≤ 57) ∨ (97 ≤ (c.toNat : Int) ∧ (c.toNat : Int) ≤ 102) ∨ (65 ≤ (c.toNat : Int) ∧ (c.toNat : Int) ≤ 70) := by
  unfold hexB
  simp only [Bool.or_eq_true, Bool.and_eq_true, decide_eq_true_eq, UInt8.le_iff_toNat_le]
  show ((48 ≤ c.toNat ∧ c.toNat ≤ 57) ∨ (97 ≤ c.toNat ∧ c.toNat ≤ 102)) ∨ (65 ≤ c.toNat ∧ c.toNat ≤ 70) ↔ _
  omega
theorem dash_iff (k : Nat) : dashAt k = true ↔ k = 8 ∨ k = 13 ∨ k = 18 ∨ k = 23 := by
  unfold dashAt; simp only [Bool.or_eq_true, beq_iff_eq]; omega

set_option maxHeartbeats 800000 in
/-- validUUID. -/
theorem valid_any (s : ByteArray) (w : World) (hs : s.size ≤ maxLen) :
    Calls Try.prog 25 #[.string s] w fun e w' => e = .returned (.bool (validB s)) ∧ w' = w := by
  unfold maxLen at hs
  by_cases h36 : s.size = 36
  · have H36 : Hid (s.size = 36) := h36
    have hlo : 36 ≤ s.size := by omega
    have hhi : s.size ≤ 36 := by omega
    clear h36
    go_enter Try.func25, Try.ntmps25
    go_wp2
    go_loop [3] (fun i => ∃ k : Nat, k ≤ s.size ∧ i = .int .i64 k ∧ Hid (vfrom (s.data.toList.drop k) k = validB s)) (fun i => s.size - (intOf i).toNat)
    case atStart => exact ⟨0, Nat.zero_le _, rfl, rfl⟩
    case round =>
      obtain ⟨k, hk, rfl, HV⟩ := hrel
      by_cases hlt : k < s.size
      · by_cases hd : dashAt k = true
        · have HD : Hid (dashAt k = true) := hd
          have hor : (((k : Int) == 8) = true) ∨ ((((k : Int) == 8) = false) ∧ ((k : Int) == 13) = true) ∨ ((((k : Int) == 8) = false) ∧ (((k : Int) == 13) = false) ∧ ((k : Int) == 18) = true) ∨ ((((k : Int) == 8) = false) ∧ (((k : Int) == 13) = false) ∧ (((k : Int) == 18) = false) ∧ ((k : Int) == 23) = true) := by
            have := (dash_iff k).1 hd
            simp only [beq_iff_eq, beq_eq_false_iff_ne]
            omega
          clear hd
          by_cases hc : (s[k].toNat : Int) = 45
          · have HO : Hid (okAt k s[k] = true) := ok_dash HD.out hc
            have hc1 : ((s[k].toNat : Int) == 45) = true := by simpa using hc
            clear hc
            rcases hor with e1 | ⟨e1, e2⟩ | ⟨e1, e2, e3⟩ | ⟨e1, e2, e3, e4⟩
            all_goals
              go_wp2
              go_round
              case rel => exact ⟨k + 1, by omega, by go_num, valid_go s k H36.out hlt HO.out HV.out⟩
              case measure => simp [intOf]; omega
          · have HO : Hid (okAt k s[k] = false) := no_dash HD.out hc
            have hc1 : ((s[k].toNat : Int) == 45) = false := by simpa using hc
            clear hc
            rcases hor with e1 | ⟨e1, e2⟩ | ⟨e1, e2, e3⟩ | ⟨e1, e2, e3, e4⟩
            all_goals
              go_wp2
              go_ret
              exact ⟨ret_bool (valid_no s k hlt HO.out HV.out).symm, rfl⟩
        · have HK : Hid (okAt k s[k] = hexB s[k]) := ok_hex (by simpa using hd)
          have hne := mt (dash_iff k).2 hd
          have e1 : ((k : Int) == 8) = false := by simp; omega
          have e2 : ((k : Int) == 13) = false := by simp; omega
          have e3 : ((k : Int) == 18) = false := by simp; omega
          have e4 : ((k : Int) == 23) = false := by simp; omega
          clear hd hne
          by_cases hx : hexB s[k] = true
          · have HO : Hid (okAt k s[k] = true) := by show _ = _; rw [HK.out, hx]
            have hor := (hexB_iff _).1 hx
            clear hx
            rcases hor with ⟨c1, c2⟩ | ⟨c1, c2⟩ | ⟨c1, c2⟩
            all_goals
              go_wp2
              go_round
              case rel => exact ⟨k + 1, by omega, by go_num, valid_go s k H36.out hlt HO.out HV.out⟩
              case measure => simp [intOf]; omega
          · have HO : Hid (okAt k s[k] = false) := by show _ = _; rw [HK.out]; simpa using hx
            have hno := mt (hexB_iff _).2 hx
            clear hx
            have hor : (s[k].toNat : Int) < 48 ∨ (57 < (s[k].toNat : Int) ∧ (s[k].toNat : Int) < 65) ∨ (70 < (s[k].toNat : Int) ∧ (s[k].toNat : Int) < 97) ∨ 102 < (s[k].toNat : Int) := by omega
            clear hno
            rcases hor with c1 | ⟨c1, c2⟩ | ⟨c1, c2⟩ | c1
            all_goals
              go_wp2
              go_ret
              exact ⟨ret_bool (valid_no s k hlt HO.out HV.out).symm, rfl⟩
      · go_wp2
        go_ret
        exact ⟨ret_bool (valid_end s k H36.out hk hlt HV.out).symm, rfl⟩
  · have H36 : Hid (¬ s.size = 36) := h36
    have hf : ((s.size : Int) == 36) = false := by simp; omega
    clear h36
    go_enter Try.func25, Try.ntmps25
    go_wp2
    go_ret
    exact ⟨ret_bool (validB_short s H36.out).symm, rfl⟩
end Go.Proofs.Qxb6602176a.Walk
