import Derived.Test.Qxb6615944aFmtOpen
import Derived.Test.Qxb6615944aFmtVerdictYes
namespace Go.Proofs.Qxb6615944aFmt.fnVerdict
open Go.ChangeShapes Go.WideShapes Go.ChangeAt Go.RowKit
open Go.ChangeMaps (open_string shut_string)
open Go.Extern.Stop Go.Stop Go.Extern

theorem walk (F : Interp) (r1 n1 j1 r2 n2 j2 tid kt : ByteArray) (sp dp : Option Addr) (w : World) (hF : F.answers w.tape) (b1 : r1.size ≤ maxLen) (b2 : n1.size ≤ maxLen) (b3 : j1.size ≤ maxLen) (b4 : r2.size ≤ maxLen) (b5 : n2.size ≤ maxLen) (b6 : j2.size ≤ maxLen) (b7 : tid.size ≤ maxLen) (b8 : kt.size ≤ maxLen)
    (hsp : PtrF w sp) (hdp : PtrF w dp) :
    Calls Tryf.prog 4 #[.string r1, .string n1, .string j1, .string r2, .string n2, .string j2, .string tid, .pointer sp, .pointer dp, .string kt] w
      fun e w' => e = .returned (.bool true) ∧ Below w.heap.size w w' := by
  by_cases h : tid.toList.isEmpty = true ∨ (tid.toList == kt.toList) = false ∨ sp = none ∨ dp = none
  · exact verdict_no F r1 n1 j1 r2 n2 j2 tid kt sp dp w hF b1 b2 b3 b4 b5 b6 b7 b8 h
  · have h0 : tid.toList.isEmpty = false := by
      cases e : tid.toList.isEmpty with
      | false => rfl
      | true => exact absurd (.inl e) h
    have h1 : (tid.toList == kt.toList) = true := by
      cases e : tid.toList == kt.toList with
      | true => rfl
      | false => exact absurd (.inr (.inl e)) h
    rcases hsp with rfl | ⟨sb, so, s, rfl, hsb, hs⟩
    · exact absurd (.inr (.inr (.inl rfl))) h
    rcases hdp with rfl | ⟨db, dO, d, rfl, hdb, hd'⟩
    · exact absurd (.inr (.inr (.inr rfl))) h
    exact verdict_yes F r1 n1 j1 r2 n2 j2 tid kt sb so db dO s d w hF b1 b2 b3 b4 b5 b6 b7 b8 h0 h1 hsb hs hdb hd'

set_option maxRecDepth 100000 in
theorem lifted (os : Os) (started : os.Started) (H : Type) (enc : TypeId × Value → H) :
    ReturnsInTold none {} Tryf.checked os 4 .any Input.okWide ((OpenSpec.ofChange Rows.fnAddedVerdictHangsOnTrackAndPlaceAloneSpec).preRow enc Tryf.prog Tryf.f4 Rows.fnAddedVerdictHangsOnTrackAndPlaceAloneRow.domain false []) (fun F => ((OpenSpec.ofChange Rows.fnAddedVerdictHangsOnTrackAndPlaceAloneSpec).at F).post enc Tryf.prog Tryf.f4 false true false false) (aloneAtReturn Tryf.prog) nothingAlways := by
  refine returnsInTold_of_row (C := Tryf.checked) (s := OpenSpec.ofChange Rows.fnAddedVerdictHangsOnTrackAndPlaceAloneSpec) (by kernel_rfl) Tryf.own started (by kernel_rfl) Tryf.func4
    (OpenSpec.witness_stopped (enc := enc) (C := Tryf.checked) false ⟨#[], #[.string ⟨#[]⟩, .string ⟨#[]⟩, .string ⟨#[]⟩, .string ⟨#[]⟩, .string ⟨#[]⟩, .string ⟨#[]⟩, .string ⟨#[]⟩, .pointer none, .pointer none, .string ⟨#[]⟩], []⟩ 8 (by kernel_rfl) (by kernel_rfl) (by kernel_rfl) (by kernel_rfl)) ?_
  intro F W base args ds gs before _ hF hval0 hW _ _ hsz _ _
  have hval : ∀ (j : Nat) t v, Tryf.f4.params[j]? = some t → args[j]? = some v → Value.okWide Tryf.prog W .any base t v := hval0
  have hW' := hW
  obtain ⟨p, q, hA0, hV, rfl, hfz, hnd⟩ := hW
  have hA : DataW.TrodAll enc Tryf.prog W 0 (fun _ => true) true Tryf.f4.params.toList args.toList ds p := hA0
  rw [Tryf.params4] at hA hval
  obtain ⟨v0, vs0, d0, ds0, p0, q0, hargs, rfl, rfl, h0, r0⟩ := trodAll_cons hA
  obtain ⟨v1, vs1, d1, ds1, p1, q1, rfl, rfl, rfl, h1, t1⟩ := trodAll_cons r0
  obtain ⟨v2, vs2, d2, ds2, p2, q2, rfl, rfl, rfl, h2, t2⟩ := trodAll_cons t1
  obtain ⟨v3, vs3, d3, ds3, p3, q3, rfl, rfl, rfl, h3, t3⟩ := trodAll_cons t2
  obtain ⟨v4, vs4, d4, ds4, p4, q4, rfl, rfl, rfl, h4, t4⟩ := trodAll_cons t3
  obtain ⟨v5, vs5, d5, ds5, p5, q5, rfl, rfl, rfl, h5, t5⟩ := trodAll_cons t4
  obtain ⟨v6, vs6, d6, ds6, p6, q6, rfl, rfl, rfl, h6, t6⟩ := trodAll_cons t5
  obtain ⟨v7, vs7, d7, ds7, p7, q7, rfl, rfl, rfl, h7, t7⟩ := trodAll_cons t6
  obtain ⟨v8, vs8, d8, ds8, p8, q8, rfl, rfl, rfl, h8, t8⟩ := trodAll_cons t7
  obtain ⟨v9, vs9, d9, ds9, p9, q9, rfl, rfl, rfl, h9, t9⟩ := trodAll_cons t8
  obtain ⟨rfl, rfl, rfl⟩ := trodAll_nil t9
  obtain rfl : args = #[v0, v1, v2, v3, v4, v5, v6, v7, v8, v9] := by cases args; simp_all
  obtain ⟨rfl, rfl⟩ := trodVars_none hV
  obtain ⟨r1, rfl, rfl, rfl, w0⟩ := open_string Tryf.underlying9 (hval 0 9 v0 rfl rfl) h0
  obtain ⟨n1, rfl, rfl, rfl, w1⟩ := open_string Tryf.underlying9 (hval 1 9 v1 rfl rfl) h1
  obtain ⟨j1, rfl, rfl, rfl, w2⟩ := open_string Tryf.underlying9 (hval 2 9 v2 rfl rfl) h2
  obtain ⟨r2, rfl, rfl, rfl, w3⟩ := open_string Tryf.underlying9 (hval 3 9 v3 rfl rfl) h3
  obtain ⟨n2, rfl, rfl, rfl, w4⟩ := open_string Tryf.underlying9 (hval 4 9 v4 rfl rfl) h4
  obtain ⟨j2, rfl, rfl, rfl, w5⟩ := open_string Tryf.underlying9 (hval 5 9 v5 rfl rfl) h5
  obtain ⟨tid, rfl, rfl, rfl, w6⟩ := open_string Tryf.underlying9 (hval 6 9 v6 rfl rfl) h6
  have lt7 : ∀ x ∈ p7, x.block < W.heap.size := by obtain ⟨m, hm⟩ := h7; exact DataW.trod_lt m _ _ _ hm
  obtain ⟨sp, rfl, hsp⟩ := open_ptrf (hval 7 22 v7 rfl rfl) h7
  have lt8 : ∀ x ∈ p8, x.block < W.heap.size := by obtain ⟨m, hm⟩ := h8; exact DataW.trod_lt m _ _ _ hm
  obtain ⟨dp, rfl, hdp⟩ := open_ptrf (hval 8 22 v8 rfl rfl) h8
  obtain ⟨kt, rfl, rfl, rfl, w9⟩ := open_string Tryf.underlying9 (hval 9 9 v9 rfl rfl) h9
  clear hA0 hval0
  refine (walk F.told r1 n1 j1 r2 n2 j2 tid kt sp dp W hF w0 w1 w2 w3 w4 w5 w6 w9 hsp hdp).mono fun e W' ⟨he, bel⟩ => ?_
  subst he
  exact ⟨_, rfl, _, _, _, [], _, [], hW', trodAll_mk1 (shut_bool Tryf.underlying4 _), (trodAll_cons_mk (shut_string Tryf.underlying9 w0) (trodAll_cons_mk (shut_string Tryf.underlying9 w1) (trodAll_cons_mk (shut_string Tryf.underlying9 w2) (trodAll_cons_mk (shut_string Tryf.underlying9 w3) (trodAll_cons_mk (shut_string Tryf.underlying9 w4) (trodAll_cons_mk (shut_string Tryf.underlying9 w5) (trodAll_cons_mk (shut_string Tryf.underlying9 w6) (trodAll_cons_mk (Below.trod Tryf.laidOut (by kernel_rfl) (of_decide_eq_true (by kernel_rfl)) h7 bel lt7) (trodAll_cons_mk (Below.trod Tryf.laidOut (by kernel_rfl) (of_decide_eq_true (by kernel_rfl)) h8 bel lt8) (trodAll_cons_mk (shut_string Tryf.underlying9 w9) trodAll_mk0)))))))))), rfl, bel.frame _, fun h => by cases h⟩

theorem over : Claim7.holds Tryf.pinned (.plain (OpenSpec.ofChange Rows.fnAddedVerdictHangsOnTrackAndPlaceAloneSpec)) Rows.fnAddedVerdictHangsOnTrackAndPlaceAloneCard :=
  Claim7.holds_of_told_any (c := Rows.fnAddedVerdictHangsOnTrackAndPlaceAloneRow) 4 Tryf.f4 "fmt.errorf" [] [] _ _ _ (by kernel_rfl) rfl rfl rfl Tryf.laidOut' (by kernel_rfl) rfl ⟨rfl, rfl, rfl, rfl, rfl, rfl, rfl⟩ rfl rfl (by kernel_rfl) (by kernel_rfl) Tryf.func4 (by kernel_rfl)
    (of_decide_eq_true (by kernel_rfl)) (by unfold Func.isWrapper; first | (rw [if_pos (by decide +kernel)]; kernel_rfl) | (rw [if_neg (by decide +kernel)]; exact ⟨rfl, rfl⟩)) Tryf.stops.symm rfl Tryf.stopKnobs.symm (by kernel_rfl)
    (by kernel_rfl) (by kernel_rfl) (by kernel_rfl) (by kernel_rfl) (by kernel_rfl) (by kernel_rfl) (by kernel_rfl) (by kernel_rfl) (by kernel_rfl) rfl (by kernel_rfl) rfl rfl
    rfl rfl
    rfl (by kernel_rfl) (by kernel_rfl) (by kernel_rfl) (by decide) (by kernel_rfl)
    (OpenClaim.moreEntering_of (by kernel_rfl) (by kernel_rfl) (by kernel_rfl) (by kernel_rfl) (by kernel_rfl) (by kernel_rfl) (by kernel_rfl) (by kernel_rfl) (by kernel_rfl) (by kernel_rfl))
    ⟨_, WideRow.started_initial, Tryf.quiet _⟩
    (fun os started _ H enc _ => lifted os started H enc)
end Go.Proofs.Qxb6615944aFmt.fnVerdict
namespace Go.Proofs.Qxb6615944aFmt
theorem fnAddedVerdict_holds : Rows.FnAddedVerdictHangsOnTrackAndPlaceAloneToldSaid := fnVerdict.over
end Go.Proofs.Qxb6615944aFmt
