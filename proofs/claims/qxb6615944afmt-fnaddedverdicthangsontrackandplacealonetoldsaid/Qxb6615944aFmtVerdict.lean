import Derived.Test.Qxb6615944aFmtZz
import Derived.Test.Qxb6615944aFmtBytes
import Derived.Test.Qxb6615944aFmtGives
import Derived.Deep.DeepCutAuto
namespace Go.Proofs.Qxb6615944aFmt
open Go.RowKit Go.Extern.Stop Go.Stop Go.Extern
attribute [local go_sem] run_store_float

theorem other_ne (t : ByteArray) : (t.toList == (t ++ ⟨#[35]⟩ : ByteArray).toList) = false := by
  rw [ByteArray.toList_eq, ByteArray.toList_eq, beq_eq_false_iff_ne]
  intro e
  have := congrArg List.length e
  simp at this

set_option maxHeartbeats 2000000 in
set_option maxRecDepth 100000 in
theorem verdict_no (F : Interp) (r1 n1 j1 r2 n2 j2 tid kt : ByteArray) (sp dp : Option Addr) (w : World) (hF : F.answers w.tape) (b1 : r1.size ≤ maxLen) (b2 : n1.size ≤ maxLen) (b3 : j1.size ≤ maxLen) (b4 : r2.size ≤ maxLen) (b5 : n2.size ≤ maxLen) (b6 : j2.size ≤ maxLen) (b7 : tid.size ≤ maxLen) (b8 : kt.size ≤ maxLen)
    (h : tid.toList.isEmpty = true ∨ (tid.toList == kt.toList) = false ∨ sp = none ∨ dp = none) :
    Calls Tryf.prog 4 #[.string r1, .string n1, .string j1, .string r2, .string n2, .string j2, .string tid, .pointer sp, .pointer dp, .string kt] w
      fun e w' => e = .returned (.bool true) ∧ Below w.heap.size w w' := by
  have Z := zzVerdict_any r1 n1 j1 r2 n2 j2 tid kt (.pointer sp) (.pointer dp) w b1 b2 b3 b4 b5 b6 b7 b8
  have H : Hid (tid.toList.isEmpty = true ∨ (tid.toList == kt.toList) = false ∨ sp = none ∨ dp = none) := h
  clear h
  unfold maxLen at *
  go_enter Tryf.func4, Tryf.ntmps4
  go_upto_region 5 with (go_at_call 8; refine Z.mono ?_; rintro e w' ⟨r, rfl, hw⟩; have hw2 := hw.symm; clear hw; subst hw2)
  all_goals first | (go_ret; exact ⟨rfl, Below.refl _ _⟩) | skip
  clear Z
  go_cut [21] (fun a wx => a = .bool false ∧ wx = w)
  case first =>
    cases h0 : tid.toList.isEmpty with
    | true =>
      go_wp2
      go_meet
      case rel => exact ⟨rfl, rfl⟩
    | false =>
      cases h1 : tid.toList == kt.toList with
      | false =>
        go_wp2
        go_meet
        case rel => exact ⟨rfl, rfl⟩
      | true =>
        cases sp with
        | none =>
          go_wp2
          go_meet
          case rel => exact ⟨rfl, rfl⟩
        | some sa =>
          have hdn : dp = none := by simpa [h0, h1] using H.out
          subst hdn
          go_wp2
          go_meet
          case rel => exact ⟨rfl, rfl⟩
  case rest =>
  obtain ⟨rfl, hw⟩ := hcut
  subst hw
  have z0 := order_zero
  go_wp2_with (go_at_call 6; refine (zz_no F r1 tid n1 j1 sp dp kt _ ?f0 H.out).mono ?k)
  case f0 => exact hF
  case k =>
  rintro e w1 ⟨⟨a, rfl⟩, hb⟩
  obtain ⟨hc1, hf1⟩ := bcell hb
  have hz0 : wc.heap.size + 1 < w1.heap.size := by have := hb.size; simp at this; omega
  have hz1 : wc.heap.size < w1.heap.size := by omega
  have hB1 : Below wc.heap.size wc w1 := (((Below.refl _ wc).alloc (Nat.le_refl _) _).alloc (by simp) _).trans (hb.mono (by simp; omega))
  have w1c0 : w1.cell? ⟨wc.heap.size, 0, none⟩ = some (.string r1) := by rw [hc1 _ _ (by simp; omega)]; go_simp
  have w1c1 : w1.cell? ⟨wc.heap.size, 1, none⟩ = some (.string tid) := by rw [hc1 _ _ (by simp; omega)]; go_simp
  have w1c2 : w1.cell? ⟨wc.heap.size, 2, none⟩ = some (.string n1) := by rw [hc1 _ _ (by simp; omega)]; go_simp
  have w1c3 : w1.cell? ⟨wc.heap.size, 3, none⟩ = some (.pointer sp) := by rw [hc1 _ _ (by simp; omega)]; go_simp
  have w1c4 : w1.cell? ⟨wc.heap.size, 4, none⟩ = some (.pointer dp) := by rw [hc1 _ _ (by simp; omega)]; go_simp
  have w1c5 : w1.cell? ⟨wc.heap.size, 5, none⟩ = some (.slice none 0 0) := by rw [hc1 _ _ (by simp; omega)]; go_simp
  have w1c6 : w1.cell? ⟨wc.heap.size, 6, none⟩ = some (.slice none 0 0) := by rw [hc1 _ _ (by simp; omega)]; go_simp
  have w1c7 : w1.cell? ⟨wc.heap.size, 7, none⟩ = some (.slice none 0 0) := by rw [hc1 _ _ (by simp; omega)]; go_simp
  have w1c8 : w1.cell? ⟨wc.heap.size, 8, none⟩ = some (.slice none 0 0) := by rw [hc1 _ _ (by simp; omega)]; go_simp
  clear hb
  go_wp2_with fail
  clear hc1 hf1 hz0
  refine (zz_no F r2 tid n2 j2 sp dp kt _ ?f1 H.out).mono ?k1
  case f1 => exact (show F.answers w1.tape by rw [hB1.tape]; exact hF)
  case k1 =>
  rintro e w2 ⟨⟨a2, rfl⟩, hb⟩
  obtain ⟨hc2, hf2⟩ := bcell hb
  have hz2 : wc.heap.size < w2.heap.size := by have := hb.size; simp at this; omega
  have hB2 : Below wc.heap.size wc w2 := hB1.trans (((Below.refl _ w1).alloc (Nat.le_refl _) _).trans (hb.mono (by simp)) |>.mono hB1.size)
  have w2c0 : w2.cell? ⟨wc.heap.size, 0, none⟩ = some (.string r1) := by rw [hc2 _ _ (by simp; omega)]; go_simp
  have w2c1 : w2.cell? ⟨wc.heap.size, 1, none⟩ = some (.string tid) := by rw [hc2 _ _ (by simp; omega)]; go_simp
  have w2c2 : w2.cell? ⟨wc.heap.size, 2, none⟩ = some (.string n1) := by rw [hc2 _ _ (by simp; omega)]; go_simp
  have w2c3 : w2.cell? ⟨wc.heap.size, 3, none⟩ = some (.pointer sp) := by rw [hc2 _ _ (by simp; omega)]; go_simp
  have w2c4 : w2.cell? ⟨wc.heap.size, 4, none⟩ = some (.pointer dp) := by rw [hc2 _ _ (by simp; omega)]; go_simp
  have w2c5 : w2.cell? ⟨wc.heap.size, 5, none⟩ = some (.slice none 0 0) := by rw [hc2 _ _ (by simp; omega)]; go_simp
  have w2c6 : w2.cell? ⟨wc.heap.size, 6, none⟩ = some (.slice none 0 0) := by rw [hc2 _ _ (by simp; omega)]; go_simp
  have w2c7 : w2.cell? ⟨wc.heap.size, 7, none⟩ = some (.slice none 0 0) := by rw [hc2 _ _ (by simp; omega)]; go_simp
  have w2c8 : w2.cell? ⟨wc.heap.size, 8, none⟩ = some (.slice none 0 0) := by rw [hc2 _ _ (by simp; omega)]; go_simp
  clear hc2 hf2 hb
  clear w1c0 w1c1 w1c2 w1c3 w1c4 w1c5 w1c6 w1c7 w1c8
  go_wp2_with fail
  refine (zz_no F r1 tid n1 j1 sp dp _ _ ?f2 ?h2).mono ?k2
  case h2 => exact .inr (.inl (other_ne tid))
  case f2 => exact (show F.answers w2.tape by rw [hB2.tape]; exact hF)
  case k2 =>
  rintro e w3 ⟨⟨a3, rfl⟩, hb⟩
  have hB3 : Below wc.heap.size wc w3 := hB2.trans (((Below.refl _ w2).alloc (Nat.le_refl _) _).trans (hb.mono (by simp)) |>.mono hB2.size)
  clear hb
  go_wp2
  go_ret
  exact ⟨rfl, hB3.alloc hB3.size _⟩
end Go.Proofs.Qxb6615944aFmt
