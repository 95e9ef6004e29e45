import Derived.Test.Qxb6615944aFmtOpen
import Derived.Test.Qxb6615944aFmtGivesYes
namespace Go.Proofs.Qxb6615944aFmt.fnGives
open Go.ChangeShapes Go.WideShapes Go.ChangeAt Go.RowKit
open Go.ChangeMaps (open_string shut_string)
open Go.Extern.Stop Go.Stop Go.Extern

theorem walk (F : Interp) (rid tid nm pj kt : ByteArray) (sp dp : Option Addr) (w : World) (hF : F.answers w.tape) (ha : rid.size ≤ maxLen) (hb : tid.size ≤ maxLen) (hc : nm.size ≤ maxLen) (hd : pj.size ≤ maxLen) (hf : kt.size ≤ maxLen)
    (hsp : PtrF w sp) (hdp : PtrF w dp) :
    Calls Tryf.prog 3 #[.string rid, .string tid, .string nm, .pointer sp, .pointer dp, .string pj, .string kt] w
      fun e w' => e = .returned (.bool true) ∧ Below w.heap.size w w' := by
  by_cases h : tid.toList.isEmpty = true ∨ (tid.toList == kt.toList) = false ∨ sp = none ∨ dp = none
  · exact gives_no F rid tid nm pj kt sp dp w hF ha hb hc hd hf hsp hdp h
  · have h0 : tid.toList.isEmpty = false := by
      cases e : tid.toList.isEmpty with
      | false => rfl
      | true => exact absurd (.inl e) h
    have h1 : (tid.toList == kt.toList) = true := by
      cases e : tid.toList == kt.toList with
      | true => rfl
      | false => exact absurd (.inr (.inl e)) h
    rcases hsp with rfl | ⟨sb, so, s, rfl, hsb, hs⟩
    · exact absurd (.inr (.inr (.inl rfl))) h
    rcases hdp with rfl | ⟨db, dO, d, rfl, hdb, hd'⟩
    · exact absurd (.inr (.inr (.inr rfl))) h
    exact gives_yes rid tid nm pj kt sb so db dO s d w ha hb hc hd hf h0 h1 hsb hs hdb hd'

set_option maxRecDepth 100000 in
theorem lifted (os : Os) (started : os.Started) (H : Type) (enc : TypeId × Value → H) :
    ReturnsInTold none {} Tryf.checked os 3 .any Input.okWide ((OpenSpec.ofChange Rows.fnAddedGivesItsRegionAndTakesItBackSpec).preRow enc Tryf.prog Tryf.f3 Rows.fnAddedGivesItsRegionAndTakesItBackRow.domain false []) (fun F => ((OpenSpec.ofChange Rows.fnAddedGivesItsRegionAndTakesItBackSpec).at F).post enc Tryf.prog Tryf.f3 false true false false) (aloneAtReturn Tryf.prog) nothingAlways := by
  refine returnsInTold_of_row (C := Tryf.checked) (s := OpenSpec.ofChange Rows.fnAddedGivesItsRegionAndTakesItBackSpec) (by kernel_rfl) Tryf.own started (by kernel_rfl) Tryf.func3
    (OpenSpec.witness_stopped (enc := enc) (C := Tryf.checked) false ⟨#[], #[.string ⟨#[]⟩, .string ⟨#[]⟩, .string ⟨#[]⟩, .pointer none, .pointer none, .string ⟨#[]⟩, .string ⟨#[]⟩], []⟩ 8 (by kernel_rfl) (by kernel_rfl) (by kernel_rfl) (by kernel_rfl)) ?_
  intro F W base args ds gs before _ hF hval0 hW _ _ hsz _ _
  have hval : ∀ (j : Nat) t v, Tryf.f3.params[j]? = some t → args[j]? = some v → Value.okWide Tryf.prog W .any base t v := hval0
  have hW' := hW
  obtain ⟨p, q, hA0, hV, rfl, hfz, hnd⟩ := hW
  have hA : DataW.TrodAll enc Tryf.prog W 0 (fun _ => true) true Tryf.f3.params.toList args.toList ds p := hA0
  rw [Tryf.params3] at hA hval
  obtain ⟨v0, vs0, d0, ds0, p0, q0, hargs, rfl, rfl, h0, r0⟩ := trodAll_cons hA
  obtain ⟨v1, vs1, d1, ds1, p1, q1, rfl, rfl, rfl, h1, r1⟩ := trodAll_cons r0
  obtain ⟨v2, vs2, d2, ds2, p2, q2, rfl, rfl, rfl, h2, r2⟩ := trodAll_cons r1
  obtain ⟨v3, vs3, d3, ds3, p3, q3, rfl, rfl, rfl, h3, r3⟩ := trodAll_cons r2
  obtain ⟨v4, vs4, d4, ds4, p4, q4, rfl, rfl, rfl, h4, r4⟩ := trodAll_cons r3
  obtain ⟨v5, vs5, d5, ds5, p5, q5, rfl, rfl, rfl, h5, r5⟩ := trodAll_cons r4
  obtain ⟨v6, vs6, d6, ds6, p6, q6, rfl, rfl, rfl, h6, r6⟩ := trodAll_cons r5
  obtain ⟨rfl, rfl, rfl⟩ := trodAll_nil r6
  obtain rfl : args = #[v0, v1, v2, v3, v4, v5, v6] := by cases args; simp_all
  obtain ⟨rfl, rfl⟩ := trodVars_none hV
  obtain ⟨rid, rfl, rfl, rfl, w0⟩ := open_string Tryf.underlying9 (hval 0 9 v0 rfl rfl) h0
  obtain ⟨tid, rfl, rfl, rfl, w1⟩ := open_string Tryf.underlying9 (hval 1 9 v1 rfl rfl) h1
  obtain ⟨nm, rfl, rfl, rfl, w2⟩ := open_string Tryf.underlying9 (hval 2 9 v2 rfl rfl) h2
  have lt3 : ∀ x ∈ p3, x.block < W.heap.size := by obtain ⟨m, hm⟩ := h3; exact DataW.trod_lt m _ _ _ hm
  have lt4 : ∀ x ∈ p4, x.block < W.heap.size := by obtain ⟨m, hm⟩ := h4; exact DataW.trod_lt m _ _ _ hm
  obtain ⟨sp, rfl, hsp⟩ := open_ptrf (hval 3 22 v3 rfl rfl) h3
  obtain ⟨dp, rfl, hdp⟩ := open_ptrf (hval 4 22 v4 rfl rfl) h4
  obtain ⟨pj, rfl, rfl, rfl, w5⟩ := open_string Tryf.underlying9 (hval 5 9 v5 rfl rfl) h5
  obtain ⟨kt, rfl, rfl, rfl, w6⟩ := open_string Tryf.underlying9 (hval 6 9 v6 rfl rfl) h6
  clear hA0 hval0
  refine (walk F.told rid tid nm pj kt sp dp W hF w0 w1 w2 w5 w6 hsp hdp).mono fun e W' ⟨he, bel⟩ => ?_
  subst he
  exact ⟨_, rfl, _, _, _, [], _, [], hW', trodAll_mk1 (shut_bool Tryf.underlying4 _), (trodAll_cons_mk (shut_string Tryf.underlying9 w0) (trodAll_cons_mk (shut_string Tryf.underlying9 w1) (trodAll_cons_mk (shut_string Tryf.underlying9 w2) (trodAll_cons_mk (Below.trod Tryf.laidOut (by kernel_rfl) (of_decide_eq_true (by kernel_rfl)) h3 bel lt3) (trodAll_cons_mk (Below.trod Tryf.laidOut (by kernel_rfl) (of_decide_eq_true (by kernel_rfl)) h4 bel lt4) (trodAll_cons_mk (shut_string Tryf.underlying9 w5) (trodAll_cons_mk (shut_string Tryf.underlying9 w6) trodAll_mk0))))))), rfl, bel.frame _, fun h => by cases h⟩

theorem over : Claim7.holds Tryf.pinned (.plain (OpenSpec.ofChange Rows.fnAddedGivesItsRegionAndTakesItBackSpec)) Rows.fnAddedGivesItsRegionAndTakesItBackCard :=
  Claim7.holds_of_told_any (c := Rows.fnAddedGivesItsRegionAndTakesItBackRow) 3 Tryf.f3 "fmt.errorf" [] [] _ _ _ (by kernel_rfl) rfl rfl rfl Tryf.laidOut' (by kernel_rfl) rfl ⟨rfl, rfl, rfl, rfl, rfl, rfl, rfl⟩ rfl rfl (by kernel_rfl) (by kernel_rfl) Tryf.func3 (by kernel_rfl)
    (of_decide_eq_true (by kernel_rfl)) (by unfold Func.isWrapper; first | (rw [if_pos (by decide +kernel)]; kernel_rfl) | (rw [if_neg (by decide +kernel)]; exact ⟨rfl, rfl⟩)) Tryf.stops.symm rfl Tryf.stopKnobs.symm (by kernel_rfl)
    (by kernel_rfl) (by kernel_rfl) (by kernel_rfl) (by kernel_rfl) (by kernel_rfl) (by kernel_rfl) (by kernel_rfl) (by kernel_rfl) (by kernel_rfl) rfl (by kernel_rfl) rfl rfl
    rfl rfl
    rfl (by kernel_rfl) (by kernel_rfl) (by kernel_rfl) (by decide) (by kernel_rfl)
    (OpenClaim.moreEntering_of (by kernel_rfl) (by kernel_rfl) (by kernel_rfl) (by kernel_rfl) (by kernel_rfl) (by kernel_rfl) (by kernel_rfl) (by kernel_rfl) (by kernel_rfl) (by kernel_rfl))
    ⟨_, WideRow.started_initial, Tryf.quiet _⟩
    (fun os started _ H enc _ => lifted os started H enc)
end Go.Proofs.Qxb6615944aFmt.fnGives
namespace Go.Proofs.Qxb6615944aFmt
theorem fnAddedGives_holds : Rows.FnAddedGivesItsRegionAndTakesItBackToldSaid := fnGives.over
end Go.Proofs.Qxb6615944aFmt
