import Derived.Test.Qxb6615944aOpenStrs
import Derived.Test.Qxb6615944aInsWalk
namespace Go.Proofs.Qxb6615944a.fnKnownIns
open Go.ChangeShapes Go.WideShapes Go.ChangeAt Go.RowKit
open Go.ChangeMaps (open_string shut_string)

theorem walk (kd : ByteArray) (ao : Option Addr) (na ca : Nat) (S : Nat → ByteArray) (p : Int) (x : ByteArray) (v : Int) (w : World)
    (hk : kd.size ≤ maxLen) (hx : x.size ≤ maxLen) (hA : IsStrs w ao na ca S) :
    Calls Try.prog 6 #[.string kd, .slice ao na ca, .int .i64 p, .string x, .int .i64 v] w fun e w' => e = .returned (.bool true) ∧ Below w.heap.size w w' := by
  by_cases k : (kd.size : Int) ≤ 65536 ∧ (na : Int) ≤ 65536 ∧ (x.size : Int) ≤ 65536
  · by_cases hp : p < 0 ∨ (na : Int) < p
    · exact ins_out kd ao na ca S p x v w hk hA.len hx hA.cells hA.small k.1 k.2.1 k.2.2 hp
    · obtain ⟨q, rfl⟩ : ∃ q : Nat, p = q := ⟨p.toNat, by omega⟩
      exact ins_any kd ao na ca S q x v w hk hA.len hx hA.cells hA.small hA.capMax hA.capLen hA.nil k.1 k.2.1 k.2.2 (by omega)
  · exact ins_early kd ao na ca S p x v w hk hA.len hx hA.cells hA.small k

set_option maxRecDepth 100000 in
theorem lifted (os : Os) (started : os.Started) (H : Type) (enc : TypeId × Value → H) :
    ReturnsInHanded {} Try.checked os 6 .any (Rows.fnKnownOneInsertedAnywhereSpec.pre6 enc Try.prog Try.f6 Rows.fnKnownOneInsertedAnywhereRow.domain false) (Rows.fnKnownOneInsertedAnywhereSpec.post enc Try.prog Try.f6 false true false false) := by
  refine returnsInHanded_of_change (C := Try.checked) Try.own started (by kernel_rfl) Try.func6
    (ChangeSpec.witness6 (enc := enc) (C := Try.checked) false ⟨#[], #[.string ByteArray.empty, .slice none 0 0, .int .i64 0, .string ByteArray.empty, .int .i64 0], []⟩ 8 (by kernel_rfl) (by kernel_rfl) (by kernel_rfl) (by kernel_rfl)) ?_
  intro W base args ds gs before hval0 hW hcnd _
  have hval : ∀ (j : Nat) t v, Try.f6.params[j]? = some t → args[j]? = some v → Value.okWide Try.prog W .any base t v := hval0
  have hW' := hW
  obtain ⟨p, q, hA0, hV, rfl, hfz, hnd⟩ := hW
  have hA : DataW.TrodAll enc Try.prog W 0 (fun _ => true) true Try.f6.params.toList args.toList ds p := hA0
  rw [Try.params6] at hA hval
  obtain ⟨v0, vs0, d0, ds0, p0, q0, hargs, rfl, rfl, h0, r0⟩ := trodAll_cons hA
  obtain ⟨v1, vs1, d1, ds1, p1, q1, rfl, rfl, rfl, h1, r1⟩ := trodAll_cons r0
  obtain ⟨v2, vs2, d2, ds2, p2, q2, rfl, rfl, rfl, h2, r2⟩ := trodAll_cons r1
  obtain ⟨v3, vs3, d3, ds3, p3, q3, rfl, rfl, rfl, h3, r3⟩ := trodAll_cons r2
  obtain ⟨v4, vs4, d4, ds4, p4, q4, rfl, rfl, rfl, h4, r4⟩ := trodAll_cons r3
  obtain ⟨rfl, rfl, rfl⟩ := trodAll_nil r4
  obtain rfl : args = #[v0, v1, v2, v3, v4] := by cases args; simp_all
  obtain ⟨rfl, rfl⟩ := trodVars_none hV
  obtain ⟨kd, rfl, rfl, rfl, hk⟩ := open_string Try.underlying9 (hval 0 9 v0 rfl rfl) h0
  obtain ⟨ao, na, ca, rfl⟩ := okWide_slice Try.underlying24 (hval 1 24 v1 rfl rfl)
  have lt1 : ∀ x ∈ p1, x.block < W.heap.size := by obtain ⟨m, hm⟩ := h1; exact DataW.trod_lt m _ _ _ hm
  obtain ⟨S, hS⟩ := open_strs_arg h1
  obtain ⟨at', rfl, rfl, rfl, wa⟩ := open_int Try.underlying3 (hval 2 3 v2 rfl rfl) h2
  obtain ⟨x, rfl, rfl, rfl, hx⟩ := open_string Try.underlying9 (hval 3 9 v3 rfl rfl) h3
  obtain ⟨v, rfl, rfl, rfl, wv⟩ := open_int Try.underlying3 (hval 4 3 v4 rfl rfl) h4
  clear hA0 hval0
  refine (walk kd ao na ca S at' x v W hk hx hS).mono fun e W' ⟨he, bel⟩ => ?_
  subst he
  exact ⟨_, rfl, _, _, _, [], _, [], hW', trodAll_mk1 (shut_bool Try.underlying4 _), (trodAll_cons_mk (shut_string Try.underlying9 hk) (trodAll_cons_mk (Below.trod Try.laidOut (by kernel_rfl) (of_decide_eq_true (by kernel_rfl)) h1 bel lt1) (trodAll_cons_mk (shut_int Try.underlying3 wa) (trodAll_cons_mk (shut_string Try.underlying9 hx) (trodAll_cons_mk (shut_int Try.underlying3 wv) trodAll_mk0))))), rfl, bel.frame _, fun h => by cases h⟩

theorem over : Rows.fnKnownOneInsertedAnywhereRow.holds Try.pinned (OpenSpec.ofChange Rows.fnKnownOneInsertedAnywhereSpec) :=
  OpenClaim.holds_of_wide 6 Try.f6 rfl rfl rfl rfl rfl rfl rfl ⟨rfl, rfl, rfl, rfl, rfl⟩ rfl rfl rfl rfl rfl (by kernel_rfl) Try.func6 (by kernel_rfl)
    (of_decide_eq_true (by kernel_rfl)) (by unfold Func.isWrapper; first | (rw [if_pos (by decide +kernel)]; kernel_rfl) | (rw [if_neg (by decide +kernel)]; exact ⟨rfl, rfl⟩))
    (fun os started H enc _ => lifted os started H enc)
end Go.Proofs.Qxb6615944a.fnKnownIns
namespace Go.Proofs.Qxb6615944a
theorem fnKnownOneInsertedAnywhere_holds : Rows.FnKnownOneInsertedAnywhereSaid := fnKnownIns.over
end Go.Proofs.Qxb6615944a
