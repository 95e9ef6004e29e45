import Derived.Test.Qxb6614570aFmtDeliver
namespace Go.Proofs.Qxb6614570aFmt
open Go.RowKit
set_option linter.unusedVariables false

theorem keyed40 : Maps.Keyed Tryf.prog 40 := Maps.int_keyed Tryf.underlying40
theorem zero26 (w : World) : (zeroValue 26).run Tryf.prog w = .ok (.pointer none) w := by kernel_rfl
theorem wf_u32 {i : Nat} (h : i ≤ 4294967295) : (Lit.int .u32 (i : Int)).wf = true := by
  have h1 : IntKind.u32.min = 0 := rfl
  have h2 : IntKind.u32.max = 4294967295 := rfl
  simp only [Lit.wf, Bool.and_eq_true, decide_eq_true_eq]
  omega
theorem key40 {i : Nat} (h : i ≤ 4294967295) : keyOf Tryf.prog 40 (.int .u32 (i : Int)) = some (.int .u32 (i : Int)) := Maps.keyOf_int_mk Tryf.underlying40 (wf_u32 h)
theorem isKey (i : Nat) : WideAt.IsKeyLit (.int .u32 (i : Int)) := trivial
theorem key_ne {i j : Nat} (h : i ≠ j) : Lit.int .u32 (i : Int) ≠ Lit.int .u32 (j : Int) := by
  intro e
  simp at e
  omega

theorem ptrElem_yes {v : Value} {ps : List MemPlace} (h : ptrElem v = some (.lit (.bool true), ps)) : ∃ a, v = .pointer (some a) := by
  unfold ptrElem at h
  split at h <;> simp at h
  exact ⟨_, rfl⟩
theorem ptrElem_no {v : Value} {ps : List MemPlace} (h : ptrElem v = some (.lit (.bool false), ps)) : v = .pointer none := by
  unfold ptrElem at h
  split at h <;> simp at h
  rfl

theorem MapI.of_block {w W : World} {C k r : Nat} (h : MapI w C k r) (hW : W.heap[C]? = w.heap[C]?) : MapI W C k r := by
  obtain ⟨D, m, ⟨es, clock, hb, rest⟩, hm⟩ := h
  exact ⟨D, m, ⟨es, clock, hW.trans hb, rest⟩, hm⟩

theorem MapI.yes {w : World} {C k r : Nat} (h : MapI w C k r) {i : Nat} (hi : i ≤ 4294967295) (h1 : r < i) (h2 : i ≤ k) : LookYes w C (i : Int) := by
  intro W hW
  obtain ⟨D, m, hown, hm, ht, hh, ha, hs⟩ := h.of_block hW
  obtain ⟨v, ps, hrun, hv⟩ := hown.lookup (zp := []) keyed40 Tryf.underlying59 (zero26 W) (rfl : ptrElem (.pointer none) = some (.lit (.bool false), [])) (key40 hi)
  rw [ha i _ h1 h2] at hv
  obtain ⟨a, rfl⟩ := ptrElem_yes hv
  exact ⟨a, hrun⟩

theorem MapI.no {w : World} {C k r : Nat} (h : MapI w C k r) {i : Nat} (hi : i ≤ 4294967295) (h1 : ¬ (r < i ∧ i ≤ k)) : LookNo w C (i : Int) := by
  intro W hW
  obtain ⟨D, m, hown, hm, ht, hh, ha, hs⟩ := h.of_block hW
  obtain ⟨v, ps, hrun, hv⟩ := hown.lookup (zp := []) keyed40 Tryf.underlying59 (zero26 W) (rfl : ptrElem (.pointer none) = some (.lit (.bool false), [])) (key40 hi)
  rw [Maps.atKey_of_not_has (by rw [hh i]; simpa using h1)] at hv
  obtain rfl := ptrElem_no hv
  exact hrun

/-- an empty map -/
theorem MapI.made (w : World) : MapI (w.alloc (.map #[] 0)) w.heap.size 0 0 :=
  ⟨_, 0, World.ownsMap_made w _ _ _, Nat.le_refl _, Maps.tidy_empty, fun i => by
      have h0 : Maps.has (.map [] : DataW Unit) (.int .u32 (i : Int)) = false := rfl
      rw [h0]; symm; simp; omega, fun i z h1 h2 => by omega, rfl⟩

/-- 'copies[k+1] = msg' -/
theorem MapI.put {w : World} {C k r : Nat} (h : MapI w C k r) (hr : r ≤ k) (hk : k ≤ 131072) (a : Addr) :
    ∃ w', (Instr.mapUpdate 59 (.map (some C)) (.int .u32 ((k : Int) + 1)) (.pointer (some a))).run Tryf.prog w = .ok () w' ∧ w.grownBy w' (some C) ∧ MapI w' C (k + 1) r := by
  obtain ⟨D, m, hown, hm, ht, hh, ha, hs⟩ := h
  have hkey := key40 (i := k + 1) (by omega)
  obtain ⟨w', hrun, hown', hg⟩ := hown.update keyed40 Tryf.underlying59 (by unfold maxLen; omega) hkey (rfl : ptrElem (.pointer (some a)) = some (.lit (.bool true), []))
  refine ⟨w', by rw [show ((k : Int) + 1) = ((k + 1 : Nat) : Int) by omega]; exact hrun, hg, _, m + 1, hown', by omega, ht.put (isKey _) _, ?_, ?_, ?_⟩
  · intro i
    by_cases e : i = k + 1
    · subst e
      rw [Maps.has_put_same ht.isMap (isKey _)]; symm; simp; omega
    · rw [Maps.has_put_other (key_ne e), hh i]
      rw [decide_eq_decide]; omega
  · intro i z h1 h2
    by_cases e : i = k + 1
    · subst e
      exact Maps.atKey_put_same ht.isMap (isKey _) _ _
    · rw [Maps.atKey_put_other (key_ne e)]
      exact ha i z h1 (by omega)
  · rw [Maps.size_put ht, hh (k + 1), hs]
    have : decide (r < k + 1 ∧ k + 1 ≤ k) = false := by simp
    rw [this]; simp; omega

/-- 'delete(copies, r+1)' -/
theorem MapI.del {w : World} {C k r : Nat} (h : MapI w C k r) (hr : r < k) (hk : k ≤ 131072) (ty : TypeId) :
    ∃ w', (Builtin.delete_ #[59, 40] ty #[.map (some C), .int .u32 ((r : Int) + 1)]).run Tryf.prog w = .ok (.tuple #[]) w' ∧ w.mapTurned w' C ∧ MapI w' C k (r + 1) := by
  obtain ⟨D, m, hown, hm, ht, hh, ha, hs⟩ := h
  have hkey := key40 (i := r + 1) (by omega)
  obtain ⟨w', hrun, hown', hg⟩ := hown.drop keyed40 Tryf.underlying59 hkey ty
  refine ⟨w', by rw [show ((r : Int) + 1) = ((r + 1 : Nat) : Int) by omega]; exact hrun, hg, _, m, hown', hm, ht.del _, ?_, ?_, ?_⟩
  · intro i
    by_cases e : i = r + 1
    · subst e
      rw [Maps.has_del_same]; symm; simp
    · rw [Maps.has_del_other (key_ne e), hh i]
      rw [decide_eq_decide]; omega
  · intro i z h1 h2
    rw [Maps.atKey_del_other (key_ne (by omega))]
    exact ha i z (by omega) h2
  · have := Maps.size_del (k := .int .u32 ((r + 1 : Nat) : Int)) ht
    rw [hh (r + 1), hs] at this
    have e : decide (r < r + 1 ∧ r + 1 ≤ k) = true := by simp; omega
    rw [e, if_pos rfl] at this
    omega

/-- 'len(copies)' -/
theorem MapI.len {w : World} {C k r : Nat} (h : MapI w C k r) (ty : TypeId) : (Builtin.len_ #[59] ty #[.map (some C)]).run Tryf.prog w = .ok (.int .i64 ((k - r : Nat) : Int)) w := by
  obtain ⟨D, m, hown, hm, ht, hh, ha, hs⟩ := h
  rw [hown.len Tryf.underlying59 ty, hs]
end Go.Proofs.Qxb6614570aFmt
