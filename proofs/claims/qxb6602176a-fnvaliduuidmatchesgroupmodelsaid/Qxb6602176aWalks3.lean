/-
  THE WALKS of the seat b6602176a, more: the model, and the law.
-/
import Derived.Test.Qxb6602176aWalks2
namespace Go.Proofs.Qxb6602176a.Walk
open Go.RowKit
open Go.Proofs.Qxb6602176a.Plain
set_option linter.unusedVariables false

def modelS (s : ByteArray) : Bool := modelB s.data.toList 0 0
theorem glen_le (g : Nat) : glen g ≤ 12 := by
  unfold glen
  repeat' split
  all_goals omega
theorem c45 {c : UInt8} (h : (c.toNat : Int) = 45) : c = 45 := UInt8.toNat_inj.1 (by show c.toNat = 45; omega)
theorem n45 {c : UInt8} (h : ¬ (c.toNat : Int) = 45) : ¬ c = 45 := fun e => h (by rw [e]; rfl)

theorem model_dash (s : ByteArray) (k g r : Nat) (h : k < s.size) (hc : (s[k].toNat : Int) = 45) (hg : g < 4) (hr : r = glen g) (e : modelB (s.data.toList.drop k) g r = modelS s) :
    modelB (s.data.toList.drop (k + 1)) (g + 1) 0 = modelS s := by
  rw [← e, drop_cons s k h, modelB, if_pos (c45 hc), if_pos ⟨hg, hr⟩]
theorem model_dash_no (s : ByteArray) (k g r : Nat) (h : k < s.size) (hc : (s[k].toNat : Int) = 45) (hg : ¬ (g < 4 ∧ r = glen g)) (e : modelB (s.data.toList.drop k) g r = modelS s) :
    modelS s = false := by
  rw [← e, drop_cons s k h, modelB, if_pos (c45 hc), if_neg hg]
theorem model_hex_no (s : ByteArray) (k g r : Nat) (h : k < s.size) (hc : ¬ (s[k].toNat : Int) = 45) (hx : hexB s[k] = false) (e : modelB (s.data.toList.drop k) g r = modelS s) :
    modelS s = false := by
  rw [← e, drop_cons s k h, modelB, if_neg (n45 hc), if_pos hx]
theorem model_hex (s : ByteArray) (k g r : Nat) (h : k < s.size) (hc : ¬ (s[k].toNat : Int) = 45) (hx : hexB s[k] = true) (hr : r + 1 ≤ glen g) (e : modelB (s.data.toList.drop k) g r = modelS s) :
    modelB (s.data.toList.drop (k + 1)) g (r + 1) = modelS s := by
  rw [← e, drop_cons s k h, modelB, if_neg (n45 hc), if_neg (by rw [hx]; simp), if_pos hr]
theorem model_hex_long (s : ByteArray) (k g r : Nat) (h : k < s.size) (hc : ¬ (s[k].toNat : Int) = 45) (hx : hexB s[k] = true) (hr : ¬ r + 1 ≤ glen g) (e : modelB (s.data.toList.drop k) g r = modelS s) :
    modelS s = false := by
  rw [← e, drop_cons s k h, modelB, if_neg (n45 hc), if_neg (by rw [hx]; simp), if_neg hr]
theorem model_end (s : ByteArray) (k g r : Nat) (h : ¬ k < s.size) (e : modelB (s.data.toList.drop k) g r = modelS s) : (g == 4 && r == 12) = modelS s := by
  rw [← e, drop_end s k (by omega), modelB]

theorem hexval_yes (c : UInt8) (h : hexB c = true) (w : World) :
    Calls Try.prog 27 #[.int .u8 (c.toNat : Int)] w fun e w' => ∃ r : Int, e = .returned (.int .i64 r) ∧ 0 ≤ r ∧ w' = w := by
  refine (hexval_any c w).mono ?_
  rintro e w' ⟨r, he, hr, hw⟩
  rw [h] at hr
  exact ⟨r, he, by simpa using hr, hw⟩
theorem hexval_no (c : UInt8) (h : hexB c = false) (w : World) :
    Calls Try.prog 27 #[.int .u8 (c.toNat : Int)] w fun e w' => ∃ r : Int, e = .returned (.int .i64 r) ∧ r < 0 ∧ w' = w := by
  refine (hexval_any c w).mono ?_
  rintro e w' ⟨r, he, hr, hw⟩
  exact ⟨r, he, hr.2 h, hw⟩

set_option maxHeartbeats 800000 in
/-- b1UUIDModel. -/
theorem model_any (s : ByteArray) (w : World) (hs : s.size ≤ maxLen) :
    Calls Try.prog 22 #[.string s] w fun e w' => e = .returned (.bool (modelS s)) ∧ w' = w := by
  unfold maxLen at hs
  go_enter Try.func22, Try.ntmps22
  go_wp2
  go_loop [3, 4, 5] (fun gs rs i => ∃ k g r : Nat, k ≤ s.size ∧ g ≤ 4 ∧ r ≤ glen g ∧ gs = .int .i64 g ∧ rs = .int .i64 r ∧ i = .int .i64 k ∧ Hid (modelB (s.data.toList.drop k) g r = modelS s)) (fun _ _ i => s.size - (intOf i).toNat)
  case atStart => exact ⟨0, 0, 0, Nat.zero_le _, Nat.zero_le _, Nat.zero_le _, rfl, rfl, rfl, rfl⟩
  case round =>
    obtain ⟨k, g, r, hk, hg, hr, rfl, rfl, rfl, HV⟩ := hrel
    have hgl := glen_le g
    by_cases hlt : k < s.size
    · by_cases hc : (s[k].toNat : Int) = 45
      · have HC : Hid ((s[k].toNat : Int) = 45) := hc
        have hc1 : ((s[k].toNat : Int) == 45) = true := by simpa using hc
        clear hc
        by_cases hg4 : g < 4
        · by_cases hrg : r = glen g
          · have HG : Hid (r = glen g) := hrg
            have hrb : ((r : Int) != (glen g : Int)) = false := by simp [hrg]
            clear hrg
            go_wp2_with (go_at_call 26; refine (glen_any g hg _).mono ?_; rintro e w' ⟨rfl, rfl⟩)
            go_round
            case rel => exact ⟨k + 1, g + 1, 0, by omega, by omega, Nat.zero_le _, by go_num, rfl, by go_num, model_dash s k g r hlt HC.out hg4 HG.out HV.out⟩
            case measure => simp [intOf]; omega
          · have HG : Hid (¬ (g < 4 ∧ r = glen g)) := fun h => hrg h.2
            have hrb : ((r : Int) != (glen g : Int)) = true := by simp; omega
            clear hrg
            go_wp2_with (go_at_call 26; refine (glen_any g hg _).mono ?_; rintro e w' ⟨rfl, rfl⟩)
            go_ret
            exact ⟨ret_bool (model_dash_no s k g r hlt HC.out HG.out HV.out).symm, rfl⟩
        · have HG : Hid (¬ (g < 4 ∧ r = glen g)) := fun h => hg4 h.1
          have hd : 4 ≤ (g : Int) := by omega
          go_wp2
          go_ret
          exact ⟨ret_bool (model_dash_no s k g r hlt HC.out HG.out HV.out).symm, rfl⟩
      · have HC : Hid (¬ (s[k].toNat : Int) = 45) := hc
        have hc1 : ((s[k].toNat : Int) == 45) = false := by simpa using hc
        clear hc
        by_cases hx : hexB s[k] = true
        · have HX : Hid (hexB s[k] = true) := hx
          clear hx
          by_cases hrl : r + 1 ≤ glen g
          · go_wp2_with (first | (go_at_call 26; refine (glen_any g hg _).mono ?_; rintro e w' ⟨rfl, rfl⟩) | (go_at_call 27; refine (hexval_yes s[k] HX.out _).mono ?_; rintro e w' ⟨q, rfl, hq, rfl⟩))
            go_round
            case rel => exact ⟨k + 1, g, r + 1, by omega, by omega, hrl, rfl, by go_num, by go_num, model_hex s k g r hlt HC.out HX.out hrl HV.out⟩
            case measure => simp [intOf]; omega
          · go_wp2_with (first | (go_at_call 26; refine (glen_any g hg _).mono ?_; rintro e w' ⟨rfl, rfl⟩) | (go_at_call 27; refine (hexval_yes s[k] HX.out _).mono ?_; rintro e w' ⟨q, rfl, hq, rfl⟩))
            go_ret
            exact ⟨ret_bool (model_hex_long s k g r hlt HC.out HX.out hrl HV.out).symm, rfl⟩
        · have HX : Hid (hexB s[k] = false) := by show _ = _; simpa using hx
          clear hx
          go_wp2_with (go_at_call 27; refine (hexval_no s[k] HX.out _).mono ?_; rintro e w' ⟨q, rfl, hq, rfl⟩)
          go_ret
          exact ⟨ret_bool (model_hex_no s k g r hlt HC.out HX.out HV.out).symm, rfl⟩
    · by_cases h4 : g = 4
      · have HE : Hid ((g == 4 && r == 12) = modelS s) := model_end s k g r hlt HV.out
        subst h4
        go_wp2
        go_ret
        refine ⟨ret_bool ?_, rfl⟩
        rw [← HE.out]
        show ((r : Int) == 12) = _
        rw [Bool.eq_iff_iff]
        simp
        omega
      · have HE : Hid ((g == 4 && r == 12) = modelS s) := model_end s k g r hlt HV.out
        have h4b : ((g : Int) == 4) = false := by simp; omega
        have H4 : Hid (¬ g = 4) := h4
        clear h4
        go_wp2
        go_ret
        refine ⟨ret_bool ?_, rfl⟩
        rw [← HE.out]
        simp [H4.out]

theorem bytes_any (s : ByteArray) (w : World) (hs : s.size ≤ maxLen) :
    Calls Try.prog 20 #[.string s] w fun e w' => e = .returned (.bool (decide (s.size ≤ 1048576))) ∧ w' = w := by
  unfold maxLen at hs
  by_cases h : s.size ≤ 1048576
  · have HD : Hid (decide (s.size ≤ 1048576) = true) := by show decide _ = _; simpa using h
    go_enter Try.func20, Try.ntmps20
    go_wp2
    go_ret
    exact ⟨ret_bool HD.out.symm, rfl⟩
  · have HD : Hid (decide (s.size ≤ 1048576) = false) := by show decide _ = _; simpa using h
    go_enter Try.func20, Try.ntmps20
    go_wp2
    go_ret
    exact ⟨ret_bool HD.out.symm, rfl⟩

theorem valid_zz (s : ByteArray) (w : World) (hs : s.size ≤ maxLen) :
    Calls Try.prog 21 #[.string s] w fun e w' => e = .returned (.bool (validB s)) ∧ w' = w := by
  go_enter Try.func21, Try.ntmps21
  go_wp2_with (go_at_call 25; refine (valid_any s _ hs).mono ?_; rintro e w' ⟨rfl, rfl⟩)
  go_ret
  exact ⟨rfl, rfl⟩

theorem same (s : ByteArray) : modelS s = validB s := law _

theorem law_any (s : ByteArray) (w : World) (hs : s.size ≤ maxLen) :
    Calls Try.prog 7 #[.string s] w fun e w' => e = .returned (.bool true) ∧ w' = w := by
  by_cases h : s.size ≤ 1048576
  · have hd : decide (s.size ≤ 1048576) = true := by simpa using h
    go_enter Try.func7, Try.ntmps7
    go_wp2_with fail
    refine (bytes_any s _ hs).mono ?_
    rintro e w' ⟨rfl, rfl⟩
    go_wp2_with fail
    refine (valid_zz s _ hs).mono ?_
    rintro e w' ⟨rfl, rfl⟩
    go_wp2_with fail
    refine (model_any s _ hs).mono ?_
    rintro e w' ⟨rfl, rfl⟩
    go_wp2_with fail
    go_ret
    exact ⟨ret_bool (by rw [same]; simp), rfl⟩
  · have hd : decide (s.size ≤ 1048576) = false := by simpa using h
    go_enter Try.func7, Try.ntmps7
    go_wp2_with fail
    refine (bytes_any s _ hs).mono ?_
    rintro e w' ⟨rfl, rfl⟩
    go_wp2_with fail
    go_ret
    exact ⟨rfl, rfl⟩
end Go.Proofs.Qxb6602176a.Walk
