/-
  THE WALK of (*derBuilder).end where the contents have 128 bytes or more (the seat b6601770a).
-/
import Derived.Test.Qxb6601770aCopy
namespace Go.Proofs.Qxb6601770a.Walk
open Go Go.RowKit
set_option linter.unusedVariables false

/-- How many bytes the length takes. -/
def sz (m : Nat) : Nat := if m < 256 then 1 else if m < 65536 then 2 else 3
theorem sz_pos (m : Nat) : 1 ≤ sz m := by
  unfold sz
  split
  · omega
  · split <;> omega
theorem sz_le (m : Nat) : sz m ≤ 3 := by
  unfold sz
  split
  · omega
  · split <;> omega
/-- The counting loop's states. -/
def Cnt (m k r : Nat) : Prop := (k = 0 ∧ r = m) ∨ (k = 1 ∧ r = m / 256) ∨ (k = 2 ∧ r = m / 65536 ∧ 256 ≤ m) ∨ (k = 3 ∧ r = m / 16777216 ∧ 65536 ≤ m)
theorem Cnt.le {m k r : Nat} (h : Cnt m k r) : k ≤ 3 ∧ r ≤ m := by unfold Cnt at h; omega
theorem Cnt.done {m k r : Nat} (h : Cnt m k r) (hm : 128 ≤ m) (hr : r = 0) (h20 : m ≤ 1048576) : k = sz m := by
  unfold Cnt at h
  unfold sz
  split
  · omega
  · split <;> omega
theorem Cnt.next {m k r : Nat} (h : Cnt m k r) (hm : 128 ≤ m) (hr : 0 < r) (h20 : m ≤ 1048576) : Cnt m (k + 1) (r / 256) := by
  unfold Cnt at *
  omega

/-- The byte of the length at place i. -/
def bt (m k i : Nat) : Int := (m : Int) / 2 ^ (8 * (k - 1 - i)) % 256
/-- The row behind i rounds of the last loop. -/
def rowAt (st m k : Nat) (xs : List Value) : Nat → List Value
  | 0 => xs
  | i + 1 => (rowAt st m k xs i).set (st + i) (.int .u8 (bt m k i))

/-- The length's further bytes. -/
def ext (m k : Nat) : List Value := (List.range k).map fun i => .int .u8 (bt m k i)
theorem rowAt_eq (st m k : Nat) (A J R : List Value) (hA : A.length = st) (hJ : J.length = k) : ∀ j, j ≤ k → rowAt st m k (A ++ J ++ R) j = A ++ (((List.range j).map fun i => Value.int .u8 (bt m k i)) ++ J.drop j) ++ R
  | 0, _ => by simp [rowAt]
  | j + 1, h => by
    have hl : (List.map (fun i => Value.int .u8 (bt m k i)) (List.range j)).length = j := by simp
    rw [rowAt, rowAt_eq st m k A J R hA hJ j (by omega), List.append_assoc, List.set_append_right _ _ (by omega), hA, Nat.add_sub_cancel_left, List.set_append_left _ _ (by simp; omega), List.set_append_right _ _ (by omega), hl, Nat.sub_self, List.range_succ, List.map_append]
    rw [List.drop_eq_getElem_cons (by omega), List.set_cons_zero]
    simp
theorem row_end (st m k : Nat) (xs cur : List Value) (L : Value) (hx : xs.length = st + m) (hk : k ≤ m) (hst : 1 ≤ st) (hc : st + m + k ≤ cur.length) (ht : cur.take (st + m + k) = xs ++ Law.zs k) :
    rowAt st m k (((splice cur (st + k) (xs.drop st)).take (st + m + k)).set (st - 1) L) k = (xs.take st).set (st - 1) L ++ ext m k ++ xs.drop st := by
  have h1 : cur.take (st + k) = xs.take st ++ (xs.drop st).take k := by
    have : cur.take (st + k) = (cur.take (st + m + k)).take (st + k) := by rw [List.take_take]; congr 1; omega
    rw [this, ht, List.take_append_of_le_length (by omega), ← List.take_add]
  have h2 : (splice cur (st + k) (xs.drop st)).take (st + m + k) = xs.take st ++ (xs.drop st).take k ++ xs.drop st := by
    unfold splice
    rw [← List.append_assoc, List.take_append_of_le_length (by simp; omega), List.take_of_length_le (by simp; omega), h1]
  have h3 : (xs.take st ++ (xs.drop st).take k ++ xs.drop st).set (st - 1) L = (xs.take st).set (st - 1) L ++ (xs.drop st).take k ++ xs.drop st := by
    rw [List.append_assoc, List.set_append_left _ _ (by simp; omega), ← List.append_assoc]
  rw [h2, h3, rowAt_eq st m k _ _ _ (by simp; omega) (by simp; omega) k (Nat.le_refl _), List.drop_of_length_le (by simp; omega), List.append_nil]
  rfl

theorem info5s : (Try.prog.info? 5).map (·.size) = some 1 := by kernel_rfl

set_option maxHeartbeats 1000000 in
theorem end_long (B D g st m cap : Nat) (xs : List Value) (w : World) (h : Inv B D w (some ⟨g, 0, none⟩) (st + m) cap xs) (hst : 1 ≤ st) (hst2 : st ≤ 4194304) (hm : 128 ≤ m) (h20 : m ≤ 1048576) (HX : Hid (∀ v ∈ xs, v.oneCell' = true)) :
    Calls Try.prog 25 #[.pointer (some ⟨D, 0, none⟩), .int .i64 (st : Int)] w fun e w' => e = .returned (.tuple #[]) ∧ (∃ ao' cap', Inv B D w' ao' (st + m + sz m) cap' ((xs.take st).set (st - 1) (.int .u8 (128 + (sz m : Int))) ++ ext m (sz m) ++ xs.drop st)) ∧ Below B w w' := by
  have hc := h.cellD
  have H : Hid (Inv B D w (some ⟨g, 0, none⟩) (st + m) cap xs) := h
  clear h
  obtain ⟨i0, hi, hz0, hz1, hz2⟩ := info_parts info5
  go_enter Try.func25, Try.ntmps25
  go_wp2
  go_loop [5, 6] (fun s r => ∃ k q : Nat, s = .int .i64 k ∧ r = .int .i64 q ∧ Hid (Cnt m k q) ∧ k ≤ 3 ∧ q ≤ m) (fun _ r => (intOf r).toNat)
  case atStart => exact ⟨0, m, rfl, by go_num, .inl ⟨rfl, rfl⟩, by omega, Nat.le_refl _⟩
  case round =>
    obtain ⟨k, q, rfl, rfl, HC, hk3, hqm⟩ := hrel
    by_cases hq : 0 < q
    · go_wp2
      go_round
      case rel => exact ⟨k + 1, q / 256, by go_num, by go_num, HC.out.next hm hq h20, (HC.out.next hm hq h20).le.1, by omega⟩
      case measure => simp [intOf]; omega
    · have HK : Hid (k = sz m) := HC.out.done hm (by omega) h20
      have hk1 : 1 ≤ k := by rw [HK.out]; exact sz_pos m
      obtain rfl : q = 0 := by omega
      clear HC
      go_wp2_with (at_builtin; refine Law.wpList_append_own_zeros _ rfl (.tmp 34) (.tmp 35) 39 3 rfl B 5 i0 .i64 .i64 Try.underlying39 Try.underlying3 hi hz0 hz1 hz2 g (st + m) cap xs rfl H.out.own k rfl hk1 ?c1 ?c2 ?c3 ?_)
      case c1 => unfold maxLen; omega
      case c2 => omega
      case c3 => exact H.out.leB
      intro g1 cap1 w1 hown hgrow
      have hD := H.out.kept hgrow
      have HB : Hid (Below B w w1) := below_app H.out hgrow
      have hcD : w1.cell? ⟨D, 0, none⟩ = some (.slice (some ⟨g, 0, none⟩) (st + m) cap) := by rw [cell_of_row w1 D 0 _ 39 (0, 0) hD]; rfl
      have hfD : w1.frozen? ⟨D, 0, none⟩ = false := frozen_of_row w1 D 0 _ 39 hD
      obtain ⟨w2, hw2⟩ : ∃ w2, w2 = w1.setCell ⟨D, 0, none⟩ (.slice (some ⟨g1, 0, none⟩) (st + m + k) cap1) := ⟨_, rfl⟩
      have HI : Hid (Inv B D w2 (some ⟨g1, 0, none⟩) (st + m + k) cap1 (xs ++ Law.zs k)) := by rw [hw2]; exact store_inv hD hown H.out.le
      have HE : Hid (Below B w w2) := by rw [hw2]; exact HB.out.setCell H.out.le _
      clear hown hgrow hD hc
      go_wp2
      rw [← hw2]
      have HW2 : Hid (w2 = w1.setCell ⟨D, 0, none⟩ (.slice (some ⟨g1, 0, none⟩) (st + m + k) cap1)) := hw2
      have hc2 := HI.out.cellD
      have hcapA := HI.out.capLe.1
      have hcapB := HI.out.capLe.2
      unfold maxLen at hcapB
      clear hw2 hcD hfD HB
      obtain ⟨cur, hrow, hcl, hct⟩ := HI.out.row
      have HR : Hid (w2.heap[g1]? = some (.cells cur.toArray 5 (0, 0))) := hrow
      have HCL : Hid (cur.length = cap1) := hcl
      have HCT : Hid (cur.take (st + m + k) = xs ++ Law.zs k) := hct
      obtain ⟨cs, hcs⟩ : ∃ cs, cs = xs.drop st := ⟨_, rfl⟩
      have hxl : xs.length = st + m := H.out.len
      have HS1 : Hid (cs.length = m) := by show _ = _; rw [hcs]; simp; omega
      have HS2 : Hid (∀ j v, cs[j]? = some v → w2.drew.cell? ((⟨g1, st, none⟩ : Addr).add j) = some v) := by
        intro j v hv
        have hj : j < m := by rw [← HS1.out]; exact (List.getElem?_eq_some_iff.1 hv).1
        rw [Addr.add_lit]
        show w2.cell? _ = _
        rw [HI.out.cellAt (st + j) (by omega), List.getElem?_append_left (by omega), ← hv, hcs]
        simp
      have HS3 : Hid (∀ v ∈ cs, v.oneCell' = true) := by intro v hv; rw [hcs] at hv; exact HX.out v (List.mem_of_mem_drop hv)
      have HCS : Hid (cs = xs.drop st) := hcs
      have HXL : Hid (xs.length = st + m) := hxl
      have a1 : IntKind.i64.wrap ((st : Int) + (k : Int)) = (st : Int) + (k : Int) := by rw [IntKind.wrap_i64]; omega
      have a2 : ((st : Int) + (k : Int)).toNat = st + k := by omega
      have a3 : ¬ cap1 = st + k := by omega
      have a4 : IntKind.i64.wrap ((st : Int) + ((st : Int) + (m : Int) - (st : Int))) = (st : Int) + (m : Int) := by rw [IntKind.wrap_i64]; omega
      have a5 : ((st : Int) + (m : Int)).toNat = st + m := by omega
      have a6 : ¬ cap1 = st := by omega
      have b1 : (0 : Int) ≤ (st : Int) + (k : Int) := by omega
      have b2 : (st : Int) ≤ (st : Int) + (m : Int) := by omega
      have b3 : (st : Int) + (m : Int) ≤ (cap1 : Int) := by omega
      have b4 : (0 : Int) ≤ (st : Int) + (m : Int) := by omega
      have HS4 : Hid (cs.length = Nat.min m (st + m + k - (st + k))) := by show _ = _; rw [HS1.out]; exact (Nat.min_eq_left (by omega)).symm
      have HS5 : Hid (st + k + cs.length ≤ cur.length) := by show _ ≤ _; rw [HS1.out, hcl]; omega
      clear hrow hcl hct hcs hxl
      go_region_law (refine Law.step_copy_row rfl (.tmp 44) (.tmp 52) 39 39 rfl 5 Try.underlying39 info5s g1 (st + k) (st + m + k - (st + k)) (cap1 - (st + k)) ⟨g1, st, none⟩ m (cap1 - st) (by simp [Act.eval, Act.put]) (by simp [Act.eval, Act.put]) cur 5 HR.out cs HS4.out HS2.out HS5.out HS3.out ?_; intro w3 HW3)
      all_goals
        have HI3 : Hid (Inv B D w3 (some ⟨g1, 0, none⟩) (st + m + k) cap1 ((splice cur (st + k) cs).take (st + m + k))) := by
          show Inv _ _ _ _ _ _ _
          rw [HW3.out]
          exact HI.out.drew.setRow _ (by rw [length_splice _ _ _ HS5.out]; exact HCL.out)
        have HE3 : Hid (Below B w w3) := by
          show Below _ _ _
          rw [HW3.out]
          exact HE.out.drew.trans (HI.out.drew.below_setRow _)
        clear HE HW3 HR HS2 HS3 HS4 a1 a2 a3 a4 a5 a6 b1 b2 b3 b4 hc2
        have hc3 := HI3.out.cellD
        obtain ⟨v0, hold⟩ := HI3.out.cellSome (st - 1) (by omega)
        have hfr := HI3.out.own.frozenAt (st - 1)
        have HI4 : Hid (Inv B D (w3.setCell ⟨g1, st - 1, none⟩ (.int .u8 (128 + (k : Int)))) (some ⟨g1, 0, none⟩) (st + m + k) cap1 (rowAt st m k (((splice cur (st + k) cs).take (st + m + k)).set (st - 1) (.int .u8 (128 + (k : Int)))) 0)) := HI3.out.set (st - 1) _
        have HE4 : Hid (Below B w (w3.setCell ⟨g1, st - 1, none⟩ (.int .u8 (128 + (k : Int))))) := HE3.out.setCell HI3.out.leG _
        go_wp2
        go_loopw [64] (fun i wr => ∃ j : Nat, j ≤ k ∧ i = .int .i64 j ∧ Hid (Inv B D wr (some ⟨g1, 0, none⟩) (st + m + k) cap1 (rowAt st m k (((splice cur (st + k) cs).take (st + m + k)).set (st - 1) (.int .u8 (128 + (k : Int)))) j)) ∧ Hid (Below B w wr)) (fun i _ => k - (intOf i).toNat)
        case atStart => exact ⟨0, Nat.zero_le _, rfl, HI4, HE4⟩
        case round =>
          obtain ⟨j, hj, rfl, HJ, HF⟩ := hrel
          clear HI4 HE4 HI3 HE3 hold hfr hc3
          have hcj := HJ.out.cellD
          by_cases hlt : j < k
          · obtain ⟨v1, hold⟩ := HJ.out.cellSome (st + j) (by omega)
            have hfr := HJ.out.own.frozenAt (st + j)
            go_wp2
            go_region
            go_wp2
            have e : ((st : Int) + (m : Int) - (st : Int)) = (m : Int) := by omega
            go_roundw
            case rel =>
              refine ⟨j + 1, by omega, by go_num, ?_, ?_⟩
              · rw [e]; exact (HJ.out.set (st + j) _).drew
              · exact (HF.out.setCell HJ.out.leG _).drew
            case measure => simp [intOf]; omega
          · obtain rfl : j = k := by omega
            have HQ : Hid (Inv B D wr (some ⟨g1, 0, none⟩) (st + m + sz m) cap1 ((xs.take st).set (st - 1) (.int .u8 (128 + (sz m : Int))) ++ ext m (sz m) ++ xs.drop st)) := by
              have h1 := HJ.out
              rw [HCS.out, row_end st m j xs cur _ HXL.out (by omega) hst (by rw [HCL.out]; exact hcapA) HCT.out] at h1
              rw [← HK.out]
              exact h1
            clear HJ
            go_wp2
            go_end0
            exact ⟨rfl, ⟨_, cap1, HQ.out⟩, HF.out⟩
end Go.Proofs.Qxb6601770a.Walk
