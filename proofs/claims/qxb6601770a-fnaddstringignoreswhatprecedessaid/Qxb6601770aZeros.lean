/-
  A LAW OF NO PROGRAM: 'append(b, make([]byte, k)...)' onto a row of bytes that the call owns (after the kit's Lib/AppendStr, arm for arm; gc's append-of-make: the builtin is handed the number k).
-/
import Derived.Lib.AppendStr
import Derived.Lib.AppendZerosOnto
namespace Go.Proofs.Qxb6601770a.Law
open Go Go.Lib
set_option linter.unusedVariables false

def zs (k : Nat) : List Value := List.replicate k (.int .u8 0)
theorem zs_length (k : Nat) : (zs k).length = k := by simp [zs]
theorem zs_oneCell (k : Nat) : ∀ u ∈ zs k, u.oneCell' = true := by
  intro u hu
  rw [List.eq_of_mem_replicate hu]
  rfl
theorem zeroCells_zs (k : Nat) : Builtin.zeroCells (Value.int IntKind.u8 0).cells k = (zs k).toArray := by
  apply Array.ext'
  have h1 : (Value.int IntKind.u8 0).cells = #[.int .u8 0] := rfl
  rw [h1]
  simp only [Builtin.zeroCells, zs]
  apply List.ext_getElem
  · simp
  · intro j h1 h2
    simp [Nat.mod_one]

section
variable {P : Program} (w : World)

theorem run_append_room_zeros (t tn ty e : TypeId) (i : TypeInfo) (kq kn : IntKind) (ht : P.underlying t = some (.slice e)) (htn : P.underlying tn = some (.int kn)) (hi : P.info? e = some i) (hz : i.zero = some (.int .u8 0)) (hs1 : i.size = 1) (hby : i.bytes = 1)
    (g sLen sCap : Nat) (cur : Array Value) (hg : w.heap[g]? = some (.cells cur e (0, 0))) (k : Nat) (h0 : 0 < k) (h48 : k ≤ 281474976710656)
    (hroom : sLen + k ≤ sCap) (hfit : sLen + k ≤ cur.size) :
    (Builtin.append_ #[t, tn] ty #[.slice (some ⟨g, 0, none⟩) sLen sCap, .int kq k]).run P w =
      .ok (.slice (some ⟨g, 0, none⟩) (sLen + k) sCap) (w.setRow g (cur.toList.take sLen ++ zs k ++ cur.toList.drop (sLen + k)).toArray) := by
  have hk : k ≠ 0 := by omega
  have hw : IntKind.i64.wrap (k : Int) = k := by rw [IntKind.wrap_i64]; omega
  have hneg : ¬ ((k : Int) < 0) := by omega
  have h48i : ¬ (281474976710656 < (k : Int)) := by omega
  have hst := run_storeCells_at P g sLen e (zs k) 0 cur w hg (by simpa [zs_length] using hfit) (zs_oneCell k)
  simp only [Nat.add_zero, zs_length] at hst
  have hzc := zeroCells_zs k
  simp [Builtin.append_, run_underlying ht, run_underlying htn, sizeOf, typeInfo, zeroValue, hi, hz, hs1, hby, asInt, asIntOf, hw, hneg, hk, h48i, hroom, hzc, Addr.add_lit, hst]

/-- THE LAW. -/
theorem run_append_own_zeros (base : Nat) (t tn ty e : TypeId) (i : TypeInfo) (kq kn : IntKind) (ht : P.underlying t = some (.slice e)) (htn : P.underlying tn = some (.int kn)) (hi : P.info? e = some i) (hz : i.zero = some (.int .u8 0)) (hsize : i.size = 1) (hby : i.bytes = 1)
    (g n cap : Nat) (xs : List Value) (hown : w.ownsRow base e 1 (.slice (some ⟨g, 0, none⟩) n cap) n xs) (k : Nat) (h0 : 0 < k)
    (h63 : n + k ≤ maxLen) (hbytes : n + k ≤ 140737488355328) (hbase : base ≤ w.heap.size) :
    ∃ g' cap' w', (Builtin.append_ #[t, tn] ty #[.slice (some ⟨g, 0, none⟩) n cap, .int kq k]).run P w = .ok (.slice (some ⟨g', 0, none⟩) (n + k) cap') w' ∧
      w'.ownsRow base e 1 (.slice (some ⟨g', 0, none⟩) (n + k) cap') (n + k) (xs ++ zs k) ∧ w.grownBy w' (some g) := by
  have hxl : xs.length = n := by simpa using hown.1
  have hlen : (xs ++ zs k).length = (n + k) * 1 := by rw [List.length_append, hxl, zs_length, Nat.mul_one]
  rcases hown.2 with ⟨h', _⟩ | ⟨g', cap', cur, h', hbg, hg, hnc, hcm, hcs, htake⟩
  · simp at h'
  simp only [Value.slice.injEq, Option.some.injEq, Addr.mk.injEq, and_true, true_and] at h'
  obtain ⟨rfl, rfl⟩ := h'
  by_cases hroom : n + k ≤ cap
  · have hcs' : cur.size = cap := by simpa using hcs
    have hr := run_append_room_zeros (P := P) w t tn ty e i kq kn ht htn hi hz hsize hby g n cap cur hg k h0 (by omega) hroom (by omega)
    refine ⟨g, cap, _, hr, ⟨hlen, .inr ⟨g, cap, _, rfl, hbg, setRow_heap w g cur _ e _ hg, hroom, hcm, ?_, ?_⟩⟩, ⟨rfl, rfl, rfl, by simp, fun j _ hj => setRow_other w g j _ (fun e => hj (by rw [e]))⟩⟩
    · simp only [List.size_toArray, List.length_append, List.length_take, List.length_drop, Array.length_toList, zs_length]
      omega
    · have ht' : cur.toList.take n = xs := by simpa using htake
      rw [ht', ← hlen]
      exact List.take_left
  · have holds : ∀ j u, xs[j]? = some u → w.cell? ((⟨g, 0, none⟩ : Addr).add j) = some u := hown.cells (g := g) rfl
    have hold := run_firstCells_some (P := P) w.drew 1 n ⟨g, 0, none⟩ n cap xs (by simpa using hxl) (by simpa using holds)
    have hr := run_append_grow_zeros (P := P) w t tn ty e i (.int .u8 0) kq kn ht htn hi hz (some ⟨g, 0, none⟩) n cap xs (by rw [hsize]; exact hold) k h0 (by omega) (by omega) (by simp only [maxLen] at h63; omega) (by rw [hby]; omega) (by rw [hby]; exact growslice_fits (by omega) (by omega))
    have hge := grownCap_ge w (n + k) cap e
    have hcm' : grownCap w (n + k) cap e ≤ maxLen := grownCap_le_maxLen w (n + k) cap e h63
    refine ⟨w.heap.size, _, _, hr, ⟨hlen, .inr ⟨w.heap.size, _, _, rfl, hbase, heap_alloc_new w.drew _, hge, hcm', ?_, ?_⟩⟩, ⟨rfl, rfl, rfl, by simp, fun j hj _ => heap_alloc_old w.drew _ j hj⟩⟩
    · have hz1 : (Value.int IntKind.u8 0).cells.size = 1 := rfl
      simp only [Array.size_append, List.size_toArray, size_zeroCells, hz1, hxl]
      omega
    · rw [zeroCells_zs]
      simp only [Array.toList_append, List.append_assoc]
      rw [← List.append_assoc, ← hlen]
      exact List.take_left

/-- THE OPERATION, for the walk. -/
theorem wpList_append_own_zeros {ops : Array Oper} {rest : List Oper} {o : Oper} {a : Act} {Q : Exit → Act → World → Prop} (hgd : o.guard = none) (sl x : Operand) (t tn : TypeId)
    (ho : o.op = .call { callee := .builtin .append, args := #[sl, x], argTypes := #[t, tn] })
    (base : Nat) (e : TypeId) (i : TypeInfo) (kq kn : IntKind) (ht : P.underlying t = some (.slice e)) (htn : P.underlying tn = some (.int kn)) (hi : P.info? e = some i) (hz : i.zero = some (.int .u8 0)) (hsize : i.size = 1) (hby : i.bytes = 1)
    (g n cap : Nat) (xs : List Value) (hs : a.eval sl = .slice (some ⟨g, 0, none⟩) n cap) (hown : w.ownsRow base e 1 (.slice (some ⟨g, 0, none⟩) n cap) n xs) (k : Nat) (hx : a.eval x = .int kq k) (h0 : 0 < k)
    (h63 : n + k ≤ maxLen) (hbytes : n + k ≤ 140737488355328) (hbase : base ≤ w.heap.size)
    (h : ∀ g' cap' w', w'.ownsRow base e 1 (.slice (some ⟨g', 0, none⟩) (n + k) cap') (n + k) (xs ++ zs k) → w.grownBy w' (some g) → wpList P ops Q rest (a.put o.dst (.slice (some ⟨g', 0, none⟩) (n + k) cap')) w') : wpList P ops Q (o :: rest) a w := by
  refine wpList_plain hgd fun K hK => ?_
  obtain ⟨g', cap', w', hr, h2, h3⟩ := run_append_own_zeros (P := P) w base t tn o.type e i kq kn ht htn hi hz hsize hby g n cap xs hown k h0 h63 hbytes hbase
  unfold Oper.wp execOp
  simp only [ho, resolve, invoke, builtin, Sem.run_bind, Sem.run_pure, Result.andThen_ok, List.map_toArray, List.map_cons, List.map_nil, hs, hx, hr]
  exact hK _ _ (h g' cap' w' h2 h3)
end
end Go.Proofs.Qxb6601770a.Law
