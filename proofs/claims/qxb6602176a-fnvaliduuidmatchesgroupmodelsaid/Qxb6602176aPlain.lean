/-
  THE PLAIN LAW of the seat b6602176a: the run-of-hex-digits model and the position check answer alike. No Go in sight.
-/
namespace Go.Proofs.Qxb6602176a.Plain
def hexB (c : UInt8) : Bool := (48 ≤ c && c ≤ 57) || (97 ≤ c && c ≤ 102) || (65 ≤ c && c ≤ 70)
def glen (g : Nat) : Nat := if g = 0 then 8 else if g ≤ 3 then 4 else 12
def start (g : Nat) : Nat := if g = 0 then 0 else 5 * g + 4
def modelB : List UInt8 → Nat → Nat → Bool
  | [], g, run => g == 4 && run == 12
  | c :: l, g, run =>
    if c = 45 then (if g < 4 ∧ run = glen g then modelB l (g + 1) 0 else false)
    else if hexB c = false then false
    else if run + 1 ≤ glen g then modelB l g (run + 1) else false
def dashAt (p : Nat) : Bool := p == 8 || p == 13 || p == 18 || p == 23
def okAt (p : Nat) (c : UInt8) : Bool := if dashAt p then c == 45 else hexB c
def vfrom : List UInt8 → Nat → Bool
  | [], p => p == 36
  | c :: l, p => if p < 36 ∧ okAt p c = true then vfrom l (p + 1) else false

theorem hexDash : hexB 45 = false := by decide

theorem model_vfrom (l : List UInt8) : ∀ g run, g ≤ 4 → run ≤ glen g → modelB l g run = vfrom l (start g + run) := by
  induction l with
  | nil =>
    intro g run hg hr
    unfold modelB vfrom
    rw [Bool.eq_iff_iff]
    simp only [Bool.and_eq_true, beq_iff_eq]
    unfold glen at hr; unfold start
    split at hr
    · rename_i h0; subst h0; simp; omega
    · split at hr <;> split <;> omega
  | cons c l ih =>
    intro g run hg hr
    unfold modelB vfrom
    by_cases hc : c = 45
    · subst hc
      rw [if_pos rfl]
      by_cases hd : g < 4 ∧ run = glen g
      · have hp : dashAt (start g + run) = true := by
          obtain ⟨h1, rfl⟩ := hd
          match g, h1 with
          | 0, _ => decide
          | 1, _ => decide
          | 2, _ => decide
          | 3, _ => decide
        have hlt : start g + run < 36 := by
          obtain ⟨h1, rfl⟩ := hd
          match g, h1 with
          | 0, _ => decide
          | 1, _ => decide
          | 2, _ => decide
          | 3, _ => decide
        have hs : start (g + 1) = start g + run + 1 := by
          obtain ⟨h1, rfl⟩ := hd
          match g, h1 with
          | 0, _ => decide
          | 1, _ => decide
          | 2, _ => decide
          | 3, _ => decide
        rw [if_pos hd, if_pos ⟨hlt, by unfold okAt; rw [if_pos hp]; rfl⟩, ih (g + 1) 0 (by omega) (Nat.zero_le _), hs]
      · rw [if_neg hd]
        symm
        apply if_neg
        rintro ⟨hlt, hok⟩
        unfold okAt at hok
        split at hok
        · rename_i hda
          apply hd
          unfold dashAt at hda
          simp only [Bool.or_eq_true, beq_iff_eq] at hda
          unfold start glen at *
          split at hr
          · rename_i h0; subst h0; simp at hda hlt ⊢; omega
          · split at hr
            · split at hda
              · omega
              · rename_i h0 h1 h2; rw [if_neg h0, if_pos h1]; omega
            · split at hda
              · omega
              · omega
        · exact absurd hok (by decide)
    · rw [if_neg hc]
      by_cases hx : hexB c = false
      · rw [if_pos hx]
        symm
        apply if_neg
        rintro ⟨hlt, hok⟩
        unfold okAt at hok
        split at hok
        · simp at hok; exact hc hok
        · rw [hx] at hok; cases hok
      · rw [if_neg hx]
        have hx' : hexB c = true := by simpa using hx
        by_cases hrl : run + 1 ≤ glen g
        · have hp : dashAt (start g + run) = false := by
            unfold dashAt start
            unfold glen at hrl
            rw [Bool.eq_false_iff]
            simp only [ne_eq, Bool.or_eq_true, beq_iff_eq]
            split at hrl
            · rename_i h0; subst h0; simp; omega
            · split at hrl <;> split <;> omega
          have hlt : start g + run < 36 := by
            unfold start
            unfold glen at hrl
            split at hrl
            · rename_i h0; subst h0; simp; omega
            · split at hrl <;> split <;> omega
          rw [if_pos hrl, if_pos ⟨hlt, by unfold okAt; rw [hp]; simpa using hx'⟩, ih g (run + 1) hg hrl]
          rfl
        · rw [if_neg hrl]
          symm
          apply if_neg
          rintro ⟨hlt, hok⟩
          have hrg : run = glen g := by omega
          have hp : dashAt (start g + run) = true := by
            unfold dashAt
            simp only [Bool.or_eq_true, beq_iff_eq]
            subst hrg
            unfold start glen at *
            split
            · rename_i h0; subst h0; simp
            · rename_i h0
              rw [if_neg h0, if_neg h0] at hlt
              split
              · omega
              · rename_i h1; rw [if_neg h1] at hlt; omega
          unfold okAt at hok
          rw [hp] at hok
          simp at hok
          exact hc hok

theorem vfrom_len (l : List UInt8) : ∀ p, vfrom l p = true → l.length + p = 36 := by
  induction l with
  | nil => intro p h; unfold vfrom at h; simp at h; simp [h]
  | cons c l ih =>
    intro p h
    unfold vfrom at h
    split at h
    · have := ih _ h; simp; omega
    · cases h

theorem law (l : List UInt8) : modelB l 0 0 = vfrom l 0 := model_vfrom l 0 0 (by decide) (by decide)

theorem vfrom_short (l : List UInt8) (h : l.length ≠ 36) : vfrom l 0 = false := by
  cases hv : vfrom l 0 with
  | false => rfl
  | true => exact absurd (vfrom_len l 0 hv) (by omega)

def lowerL : List UInt8 := [48, 49, 50, 51, 52, 53, 54, 55, 56, 57, 97, 98, 99, 100, 101, 102]
def upperL : List UInt8 := [48, 49, 50, 51, 52, 53, 54, 55, 56, 57, 65, 66, 67, 68, 69, 70]
theorem hex_mem_nat : ∀ n : Fin 256, hexB (UInt8.ofNat n.val) = (lowerL.contains (UInt8.ofNat n.val) || upperL.contains (UInt8.ofNat n.val)) := by decide +kernel
theorem hex_mem (c : UInt8) : hexB c = (lowerL.contains c || upperL.contains c) := by
  have := hex_mem_nat ⟨c.toNat, c.toNat_lt⟩
  simpa using this
end Go.Proofs.Qxb6602176a.Plain
