/-
  THE PLAIN LAW of the seat b6601626aD: the decimal numeral tells two ints apart; the override tells two settings apart unless it is the word false. No Go in sight.
-/
import Derived.Lib.ItoaNum
import Derived.IntWalk
namespace Go.Proofs.Qxb6601626aDoor.Plain
open Go.Lib Go.RowKit

/-- The number that a list of decimal digits spells. -/
def val (l : List UInt8) : Nat := l.foldl (fun a c => a * 10 + (c.toNat - 48)) 0
theorem val_snoc (l : List UInt8) (c : UInt8) : val (l ++ [c]) = val l * 10 + (c.toNat - 48) := by simp [val]
theorem dig_toNat (d : Nat) (h : d < 10) : (UInt8.ofNat (48 + d)).toNat = 48 + d := by
  rw [UInt8.toNat_ofNat']; omega
theorem val_dec (u : Nat) : val (decDigits u) = u := by
  induction u using Nat.strongRecOn with
  | _ u ih =>
    rw [decDigits]
    split
    · rename_i h
      have := dig_toNat u h
      simp only [val, List.foldl_cons, List.foldl_nil, this]
      omega
    · rw [val_snoc, ih (u / 10) (by omega), dig_toNat _ (by omega)]
      omega
theorem dec_inj {u v : Nat} (h : decDigits u = decDigits v) : u = v := by rw [← val_dec u, ← val_dec v, h]

/-- A numeral opens with a digit. -/
theorem dec_head (u : Nat) : ∃ c r, decDigits u = c :: r ∧ 48 ≤ c.toNat ∧ c.toNat ≤ 57 := by
  induction u using Nat.strongRecOn with
  | _ u ih =>
    rw [decDigits]
    split
    · rename_i h
      exact ⟨_, [], rfl, by rw [dig_toNat u h]; omega, by rw [dig_toNat u h]; omega⟩
    · obtain ⟨c, r, e, h1, h2⟩ := ih (u / 10) (by omega)
      exact ⟨c, r ++ [UInt8.ofNat (48 + u % 10)], by rw [e]; rfl, h1, h2⟩

theorem itoa_head (n : Int) : ∃ c r, itoa n = c :: r ∧ c.toNat ≤ 57 := by
  unfold itoa
  split
  · exact ⟨45, _, rfl, by decide⟩
  · obtain ⟨c, r, e, _, h2⟩ := dec_head n.toNat
    exact ⟨c, r, e, h2⟩

theorem itoa_inj {m n : Int} (h : itoa m = itoa n) : m = n := by
  unfold itoa at h
  split at h
  · split at h
    · have := dec_inj (List.cons.inj h).2
      omega
    · obtain ⟨c, r, e, h1, _⟩ := dec_head n.toNat
      rw [e] at h
      have := (List.cons.inj h).1
      rw [← this] at h1
      exact absurd h1 (by decide)
  · split at h
    · obtain ⟨c, r, e, h1, _⟩ := dec_head m.toNat
      rw [e] at h
      have := (List.cons.inj h).1
      rw [this] at h1
      exact absurd h1 (by decide)
    · have := dec_inj h
      omega

def envL : List UInt8 := [101, 110, 118, 45]
def falseL : List UInt8 := [102, 97, 108, 115, 101]

/-- schemaOverride. -/
def ov (i : Int) : List UInt8 := if i.tmod 3 = 0 then envL ++ itoa i else if i.tmod 3 = 1 then itoa (wrap64 (i + 1)) else falseL

theorem env_ne (i n : Int) : envL ++ itoa i ≠ itoa n := by
  intro h
  obtain ⟨c, r, e, h1⟩ := itoa_head n
  rw [e] at h
  have : (101 : UInt8) = c := (List.cons.inj h).1
  rw [← this] at h1
  exact absurd h1 (by decide)

theorem ov_apart (i j : Int) (hi0 : -9223372036854775808 ≤ i) (hi1 : i ≤ 9223372036854775807) (hj0 : -9223372036854775808 ≤ j) (hj1 : j ≤ 9223372036854775807) (hne : i ≠ j)
    (ha : ov i ≠ falseL) (hb : ov j ≠ falseL) : ov i ≠ ov j := by
  unfold ov at *
  by_cases i0 : i.tmod 3 = 0
  · rw [if_pos i0] at ha ⊢
    by_cases j0 : j.tmod 3 = 0
    · rw [if_pos j0] at hb ⊢
      intro h
      exact hne (itoa_inj (List.append_cancel_left h))
    · rw [if_neg j0] at hb ⊢
      by_cases j1 : j.tmod 3 = 1
      · rw [if_pos j1] at hb ⊢
        exact env_ne _ _
      · rw [if_neg j1] at hb
        exact absurd rfl hb
  · rw [if_neg i0] at ha ⊢
    by_cases i1 : i.tmod 3 = 1
    · rw [if_pos i1] at ha ⊢
      by_cases j0 : j.tmod 3 = 0
      · rw [if_pos j0]
        exact (env_ne _ _).symm
      · rw [if_neg j0] at hb ⊢
        by_cases j1 : j.tmod 3 = 1
        · rw [if_pos j1]
          intro h
          have := itoa_inj h
          unfold wrap64 at this
          exact hne (by omega)
        · rw [if_neg j1] at hb
          exact absurd rfl hb
    · rw [if_neg i1] at ha
      exact absurd rfl ha

/-- A numeral of an int is short. -/
theorem dec_len : ∀ (k u : Nat), u < 10 ^ (k + 1) → (decDigits u).length ≤ k + 1
  | 0, u, h => by rw [decDigits, dif_pos (by simpa using h)]; simp
  | k + 1, u, h => by
    rw [decDigits]
    split
    · simp
    · have := dec_len k (u / 10) (by rw [Nat.pow_succ] at h; omega)
      simp; omega
theorem itoa_len (n : Int) (h0 : -9223372036854775808 ≤ n) (h1 : n ≤ 9223372036854775807) : (itoa n).length ≤ 22 := by
  unfold itoa
  split
  · have := dec_len 20 n.natAbs (by omega)
    simp; omega
  · have := dec_len 20 n.toNat (by omega)
    omega
end Go.Proofs.Qxb6601626aDoor.Plain
