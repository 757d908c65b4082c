/-
  THE WALK of skipSpace and ZZSkipSpace (the seat b6601964a).
-/
import Derived.Test.Qxb6601964aRows
import Derived.WalkKit
import Derived.ProofKit
import Derived.Below
import Derived.Deep.LoopGhost
import Derived.Deep.QuietTactic
import Derived.BigQuiet
namespace Go.Proofs.Qxb6601964a.Walk
open Go.RowKit
set_option linter.unusedVariables false

/-- JSON's four blanks. -/
def isSp (z : Int) : Prop := z = 32 ∨ z = 9 ∨ z = 10 ∨ z = 13

/-- WHERE skipSpace STOPS: at r, from p on: all between are blanks inside the block; at r there is none, or the block is over. -/
structure Stops (zs : List Int) (len : Nat) (p r : Int) : Prop where
  le : p ≤ r
  mid : ∀ j : Int, p ≤ j → j < r → j < len ∧ isSp (zs.getD j.toNat 0)
  stop : (len : Int) ≤ r ∨ ¬ isSp (zs.getD r.toNat 0)

theorem Stops.mono {zs : List Int} {len : Nat} {p q r s : Int} (h1 : Stops zs len p r) (h2 : Stops zs len q s) (hpq : p ≤ q) : r ≤ s := by
  rcases Int.lt_or_le s r with hlt | hle
  · obtain ⟨h3, h4⟩ := h1.mid s (by have := h2.le; omega) hlt
    rcases h2.stop with h | h
    · omega
    · exact absurd h4 h
  · exact hle

theorem below_dN {B : Nat} {a w : World} (h : Below B a w) (n : Nat) : Below B a (w.drewN n) := h.trans ⟨rfl, rfl, rfl, Nat.le_refl _, fun _ _ => rfl⟩

/-- The round's end: the place has moved on by one. -/
theorem skip_next {b off len cap d n : Nat} {zs : List Int} {p : Int} {kn : Nat} {z : Int} {w wr : World} (hpk : p ≤ (kn : Int)) (hlt : (kn : Int) < len)
    (hm : ∀ j : Int, p ≤ j → j < kn → j < len ∧ isSp (zs.getD j.toNat 0)) (hz : z = zs.getD kn 0) (hs : isSp z)
    (h1 : wr.cell? ⟨d, 1, none⟩ = some (.slice (some ⟨b, off, none⟩) len cap)) (h2 : wr.cell? ⟨d, 2, none⟩ = some (.int .i64 kn)) (h3 : wr.frozen? ⟨d, 2, none⟩ = false) (hn : Below d w wr) :
    (∀ j : Int, p ≤ j → j < (kn : Int) + 1 → j < len ∧ isSp (zs.getD j.toNat 0)) ∧
    (((wr.drewN n).setCell ⟨d, 2, none⟩ (.int .i64 ((kn : Int) + 1))).cell? ⟨d, 1, none⟩ = some (.slice (some ⟨b, off, none⟩) len cap)) ∧
    (((wr.drewN n).setCell ⟨d, 2, none⟩ (.int .i64 ((kn : Int) + 1))).cell? ⟨d, 2, none⟩ = some (.int .i64 ((kn : Int) + 1))) ∧
    (((wr.drewN n).setCell ⟨d, 2, none⟩ (.int .i64 ((kn : Int) + 1))).frozen? ⟨d, 2, none⟩ = false) ∧
    Below d w ((wr.drewN n).setCell ⟨d, 2, none⟩ (.int .i64 ((kn : Int) + 1))) := by
  refine ⟨fun j a b => ?_, ?_, ?_, ?_, ?_⟩
  · by_cases e : j = kn
    · subst e
      exact ⟨hlt, by rw [Int.toNat_natCast, ← hz]; exact hs⟩
    · exact hm j a (by omega)
  · rw [World.cell?_setCell_other _ _ _ _ (by simp)]; exact h1
  · exact World.cell?_setCell_same _ _ _ (u := .int .i64 kn) h2
  · rw [World.frozen?_setCell]; exact h3
  · exact (below_dN hn n).setCell (Nat.le_refl _) _

set_option maxHeartbeats 400000 in
theorem skip_any (b off len cap d : Nat) (zs : List Int) (p : Int) (w : World) (h20 : len ≤ 1048576) (hp0 : 0 ≤ p) (hp1 : p ≤ 9223372036854775807)
    (hc : ∀ i, i < len → w.cell? ⟨b, off + i, none⟩ = some (.int .u8 (zs.getD i 0))) (hbd : b < d)
    (hB : w.cell? ⟨d, 1, none⟩ = some (.slice (some ⟨b, off, none⟩) len cap)) (hP : w.cell? ⟨d, 2, none⟩ = some (.int .i64 p)) (hF : w.frozen? ⟨d, 2, none⟩ = false) :
    Calls Try.prog 24 #[.pointer (some ⟨d, 0, none⟩)] w fun e w' => ∃ r : Int, e = .returned (.tuple #[]) ∧ w'.cell? ⟨d, 2, none⟩ = some (.int .i64 r) ∧ Stops zs len p r ∧ Below d w w' := by
  have HC : Hid (∀ i, i < len → w.cell? ⟨b, off + i, none⟩ = some (.int .u8 (zs.getD i 0))) := hc
  clear hc
  go_enter Try.func24, Try.ntmps24
  go_wp2
  go_loopg [] (len - p.toNat) (fun g wr => ∃ k : Int, p ≤ k ∧ k ≤ 9223372036854775807 ∧ g = len - k.toNat ∧ (∀ j : Int, p ≤ j → j < k → j < len ∧ isSp (zs.getD j.toNat 0)) ∧
      wr.cell? ⟨d, 1, none⟩ = some (.slice (some ⟨b, off, none⟩) len cap) ∧ wr.cell? ⟨d, 2, none⟩ = some (.int .i64 k) ∧ wr.frozen? ⟨d, 2, none⟩ = false ∧ Below d w wr)
  case atStart => exact ⟨p, by omega, hp1, rfl, fun j h1 h2 => by omega, hB, hP, hF, Below.refl _ _⟩
  case round =>
    obtain ⟨k, hpk, hk1, hgk, hmid, hBr, hPr, hFr, hnx⟩ := hrel
    have HM : Hid (∀ j : Int, p ≤ j → j < k → j < len ∧ isSp (zs.getD j.toNat 0)) := hmid
    have HG : Hid (gk = len - k.toNat) := hgk
    have HN : Hid (Below d w wr) := hnx
    clear hmid hgk hnx hB hP hF
    by_cases hlt : k < len
    · obtain ⟨kn, rfl⟩ : ∃ kn : Nat, k = kn := ⟨k.toNat, by omega⟩
      obtain ⟨z, hz⟩ : ∃ z, z = zs.getD kn 0 := ⟨_, rfl⟩
      have hcell : wr.cell? ⟨b, off + kn, none⟩ = some (.int .u8 z) := by rw [hz]; exact (HN.out.cell (by exact hbd)).trans (HC.out kn (by omega))
      have HZ : Hid (z = zs.getD kn 0) := hz
      clear hz
      by_cases hsp : isSp z
      · have HS : Hid (isSp z) := hsp
        have hor : ((z != 32) = false) ∨ ((z != 32) = true ∧ (z != 9) = false) ∨ ((z != 32) = true ∧ (z != 9) = true ∧ (z != 10) = false) ∨ ((z != 32) = true ∧ (z != 9) = true ∧ (z != 10) = true ∧ (z != 13) = false) := by
          unfold isSp at hsp
          simp only [bne_iff_ne, ne_eq, bne_eq_false_iff_eq]
          omega
        clear hsp
        rcases hor with e1 | ⟨e1, e2⟩ | ⟨e1, e2, e3⟩ | ⟨e1, e2, e3, e4⟩
        all_goals
          go_wp2
          go_quiet (fail)
          go_wp2
          go_quiet (fail)
          go_wp2
          go_roundg (len - (kn + 1))
          case measure => rw [HG.out]; simp; omega
          case rel =>
            obtain ⟨r1, r2, r3, r4, r5⟩ := skip_next hpk hlt HM.out HZ.out HS.out hBr hPr hFr HN.out
            exact ⟨(kn : Int) + 1, by omega, by omega, by omega, r1, r2, r3, r4, r5⟩
      · have HS : Hid (¬ isSp z) := hsp
        have e1 : (z != 32) = true := by unfold isSp at hsp; simp; omega
        have e2 : (z != 9) = true := by unfold isSp at hsp; simp; omega
        have e3 : (z != 10) = true := by unfold isSp at hsp; simp; omega
        have e4 : (z != 13) = true := by unfold isSp at hsp; simp; omega
        clear hsp
        go_wp2
        go_quiet (fail)
        go_wp2
        go_quiet (fail)
        go_wp2
        refine bodyPost_ret (results_none rfl _ _ _) rfl ?_
        exact ⟨(kn : Int), rfl, hPr, ⟨hpk, HM.out, .inr (by rw [Int.toNat_natCast, ← HZ.out]; exact HS.out)⟩, below_dN HN.out _⟩
    · go_wp2
      go_quiet (fail)
      go_wp2
      go_end0
      exact ⟨k, rfl, hPr, ⟨hpk, HM.out, .inl (by omega)⟩, below_dN HN.out _⟩

/-- The same at a block with no bytes, nil or not: nothing is passed. -/
theorem skip_empty (ao : Option Addr) (cap d : Nat) (zs : List Int) (p : Int) (w : World) (hp0 : 0 ≤ p)
    (hB : w.cell? ⟨d, 1, none⟩ = some (.slice ao 0 cap)) (hP : w.cell? ⟨d, 2, none⟩ = some (.int .i64 p)) :
    Calls Try.prog 24 #[.pointer (some ⟨d, 0, none⟩)] w fun e w' => ∃ r : Int, e = .returned (.tuple #[]) ∧ w'.cell? ⟨d, 2, none⟩ = some (.int .i64 r) ∧ Stops zs 0 p r ∧ Below d w w' := by
  go_enter Try.func24, Try.ntmps24
  go_wp2
  go_loopg [] 1 (fun g wr => g = 1 ∧ wr.cell? ⟨d, 1, none⟩ = some (.slice ao 0 cap) ∧ wr.cell? ⟨d, 2, none⟩ = some (.int .i64 p) ∧ Below d w wr)
  case atStart => exact ⟨rfl, hB, hP, Below.refl _ _⟩
  case round =>
    obtain ⟨hgk, hBr, hPr, hnx⟩ := hrel
    have HN : Hid (Below d w wr) := hnx
    clear hnx hB hP hgk
    have hge : ¬ p < ((0 : Nat) : Int) := by omega
    go_wp2
    go_quiet (fail)
    go_wp2
    go_end0
    exact ⟨p, rfl, hPr, ⟨Int.le_refl _, fun j a b => by omega, .inl (by omega)⟩, below_dN HN.out _⟩

theorem cell_new (w : World) (cs : Array Value) (t : TypeId) (j : Nat) (v : Value) (h : cs[j]? = some v := by rfl) : (w.alloc (.cells cs t)).cell? ⟨w.heap.size, j, none⟩ = some v := by
  rw [cell_of_row (w.alloc (.cells cs t)) w.heap.size j cs t (0, 0) (heap_alloc_new w _)]; exact h
theorem frozen_new (w : World) (cs : Array Value) (t : TypeId) (j : Nat) : (w.alloc (.cells cs t)).frozen? ⟨w.heap.size, j, none⟩ = false := by
  exact frozen_of_row (w.alloc (.cells cs t)) w.heap.size j cs t (heap_alloc_new w _)

/-- ZZSkipSpace over a block whose bytes lie at b. -/
theorem zz_any (b off len cap : Nat) (zs : List Int) (p : Int) (w : World) (h20 : len ≤ 1048576) (hp0 : 0 ≤ p) (hp1 : p ≤ 9223372036854775807)
    (hc : ∀ i, i < len → w.cell? ⟨b, off + i, none⟩ = some (.int .u8 (zs.getD i 0))) (hb : b < w.heap.size) :
    Calls Try.prog 13 #[.slice (some ⟨b, off, none⟩) len cap, .int .i64 p] w fun e w' => ∃ r : Int, e = .returned (.int .i64 r) ∧ Stops zs len p r ∧ Below w.heap.size w w' := by
  have HC : Hid (∀ (o : Obj) i, i < len → (w.alloc o).cell? ⟨b, off + i, none⟩ = some (.int .u8 (zs.getD i 0))) := by
    intro o i hi
    rw [World.cell?_alloc_lt _ _ _ (by exact hb)]
    exact hc i hi
  clear hc
  go_enter Try.func13, Try.ntmps13
  go_wp2_with fail
  refine (skip_any b off len cap w.heap.size zs p _ h20 hp0 hp1 (HC.out _) hb (cell_new _ _ _ _ _) (cell_new _ _ _ _ _) (frozen_new _ _ _ _)).mono ?_
  rintro e w' ⟨r, rfl, hr, hst, hbel⟩
  have HS : Hid (Stops zs len p r) := hst
  have HB : Hid (Below w.heap.size w w') := ((Below.refl _ _).alloc (Nat.le_refl _) _).trans hbel
  clear hst hbel
  go_wp2
  go_ret
  exact ⟨r, rfl, HS.out, HB.out⟩

/-- ZZSkipSpace over a block with no bytes. -/
theorem zz_empty (ao : Option Addr) (cap : Nat) (zs : List Int) (p : Int) (w : World) (hp0 : 0 ≤ p) :
    Calls Try.prog 13 #[.slice ao 0 cap, .int .i64 p] w fun e w' => ∃ r : Int, e = .returned (.int .i64 r) ∧ Stops zs 0 p r ∧ Below w.heap.size w w' := by
  go_enter Try.func13, Try.ntmps13
  go_wp2_with fail
  refine (skip_empty ao cap w.heap.size zs p _ hp0 (cell_new _ _ _ _ _) (cell_new _ _ _ _ _)).mono ?_
  rintro e w' ⟨r, rfl, hr, hst, hbel⟩
  have HS : Hid (Stops zs 0 p r) := hst
  have HB : Hid (Below w.heap.size w w') := ((Below.refl _ _).alloc (Nat.le_refl _) _).trans hbel
  clear hst hbel
  go_wp2
  go_ret
  exact ⟨r, rfl, HS.out, HB.out⟩
end Go.Proofs.Qxb6601964a.Walk
