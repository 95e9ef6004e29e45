import Derived.Test.Qxb6615944aFmtVerdict
namespace Go.Proofs.Qxb6615944aFmt
open Go.RowKit Go.Extern.Stop Go.Stop Go.Extern
attribute [local go_sem] run_store_float

set_option maxHeartbeats 2000000 in
set_option maxRecDepth 100000 in
theorem verdict_yes (F : Interp) (r1 n1 j1 r2 n2 j2 tid kt : ByteArray) (sb so db dO s d : Nat) (w : World) (hF : F.answers w.tape) (b1 : r1.size ≤ maxLen) (b2 : n1.size ≤ maxLen) (b3 : j1.size ≤ maxLen) (b4 : r2.size ≤ maxLen) (b5 : n2.size ≤ maxLen) (b6 : j2.size ≤ maxLen) (b7 : tid.size ≤ maxLen) (b8 : kt.size ≤ maxLen)
    (h0 : tid.toList.isEmpty = false) (h1 : (tid.toList == kt.toList) = true)
    (hsb : sb < w.heap.size) (hs : w.cell? ⟨sb, so, none⟩ = some (.float .f64 s)) (hdb : db < w.heap.size) (hd : w.cell? ⟨db, dO, none⟩ = some (.float .f64 d)) :
    Calls Tryf.prog 4 #[.string r1, .string n1, .string j1, .string r2, .string n2, .string j2, .string tid, .pointer (some ⟨sb, so, none⟩), .pointer (some ⟨db, dO, none⟩), .string kt] w
      fun e w' => e = .returned (.bool true) ∧ Below w.heap.size w w' := by
  have Z := zzVerdict_any r1 n1 j1 r2 n2 j2 tid kt (.pointer (some ⟨sb, so, none⟩)) (.pointer (some ⟨db, dO, none⟩)) w b1 b2 b3 b4 b5 b6 b7 b8
  unfold maxLen at *
  have hs1 : sb < w.heap.size + 1 := by omega
  have hs2 : sb < w.heap.size + 1 + 1 := by omega
  have hd1 : db < w.heap.size + 1 := by omega
  have hd2 : db < w.heap.size + 1 + 1 := by omega
  have z0 := order_zero
  go_enter Tryf.func4, Tryf.ntmps4
  go_upto_region 5 with (go_at_call 8; refine Z.mono ?_; rintro e w' ⟨r, rfl, hw⟩; have hw2 := hw.symm; clear hw; subst hw2)
  all_goals first | (go_ret; exact ⟨rfl, Below.refl _ _⟩) | skip
  clear Z
  go_wp2_with (go_at_call 6; refine (zz_yes r1 tid n1 j1 sb so db dO s d kt _ h0 h1 ?c0 ?c1 ?c2 ?c3).mono ?k)
  case c0 => simp; omega
  case c1 => go_simp
  case c2 => simp; omega
  case c3 => go_simp
  case k =>
  rintro e w1 ⟨rfl, hb⟩
  obtain ⟨hc1, hf1⟩ := bcell hb
  have hz0 : w.heap.size + 1 < w1.heap.size := by have := hb.size; simp at this; omega
  have hz1 : w.heap.size < w1.heap.size := by omega
  have hB1 : Below w.heap.size w w1 := (((Below.refl _ w).alloc (Nat.le_refl _) _).alloc (by simp) _).trans (hb.mono (by simp; omega))
  have w1c0 : w1.cell? ⟨w.heap.size, 0, none⟩ = some (.string r1) := by rw [hc1 _ _ (by simp; omega)]; go_simp
  have w1c1 : w1.cell? ⟨w.heap.size, 1, none⟩ = some (.string tid) := by rw [hc1 _ _ (by simp; omega)]; go_simp
  have w1c2 : w1.cell? ⟨w.heap.size, 2, none⟩ = some (.string n1) := by rw [hc1 _ _ (by simp; omega)]; go_simp
  have w1c3 : w1.cell? ⟨w.heap.size, 3, none⟩ = some (.pointer (some ⟨sb, so, none⟩)) := by rw [hc1 _ _ (by simp; omega)]; go_simp
  have w1c4 : w1.cell? ⟨w.heap.size, 4, none⟩ = some (.pointer (some ⟨db, dO, none⟩)) := by rw [hc1 _ _ (by simp; omega)]; go_simp
  have w1c5 : w1.cell? ⟨w.heap.size, 5, none⟩ = some (.slice none 0 0) := by rw [hc1 _ _ (by simp; omega)]; go_simp
  have w1c6 : w1.cell? ⟨w.heap.size, 6, none⟩ = some (.slice none 0 0) := by rw [hc1 _ _ (by simp; omega)]; go_simp
  have w1c7 : w1.cell? ⟨w.heap.size, 7, none⟩ = some (.slice none 0 0) := by rw [hc1 _ _ (by simp; omega)]; go_simp
  have w1c8 : w1.cell? ⟨w.heap.size, 8, none⟩ = some (.slice none 0 0) := by rw [hc1 _ _ (by simp; omega)]; go_simp
  have hs3 : w1.cell? ⟨sb, so, none⟩ = some (.float .f64 s) := (hB1.cell (p := ⟨sb, so, none⟩) hsb).trans hs
  have hd3 : w1.cell? ⟨db, dO, none⟩ = some (.float .f64 d) := (hB1.cell (p := ⟨db, dO, none⟩) hdb).trans hd
  have hs4 : sb < w1.heap.size := by omega
  have hd4 : db < w1.heap.size := by omega
  clear hb
  go_wp2_with fail
  clear hc1 hf1 hz0
  refine (zz_yes r2 tid n2 j2 sb so db dO s d kt _ h0 h1 ?c4 ?c5 ?c6 ?c7).mono ?k1
  case c4 => simp; omega
  case c5 => go_simp
  case c6 => simp; omega
  case c7 => go_simp
  case k1 =>
  rintro e w2 ⟨rfl, hb⟩
  obtain ⟨hc2, hf2⟩ := bcell hb
  have hz2 : w.heap.size < w2.heap.size := by have := hb.size; simp at this; omega
  have hz3 : w1.heap.size < w2.heap.size := by have := hb.size; simp at this; omega
  have hB2 : Below w.heap.size w w2 := hB1.trans (((Below.refl _ w1).alloc (Nat.le_refl _) _).trans (hb.mono (by simp)) |>.mono hB1.size)
  have w2c0 : w2.cell? ⟨w.heap.size, 0, none⟩ = some (.string r1) := by rw [hc2 _ _ (by simp; omega)]; go_simp
  have w2c1 : w2.cell? ⟨w.heap.size, 1, none⟩ = some (.string tid) := by rw [hc2 _ _ (by simp; omega)]; go_simp
  have w2c2 : w2.cell? ⟨w.heap.size, 2, none⟩ = some (.string n1) := by rw [hc2 _ _ (by simp; omega)]; go_simp
  have w2c3 : w2.cell? ⟨w.heap.size, 3, none⟩ = some (.pointer (some ⟨sb, so, none⟩)) := by rw [hc2 _ _ (by simp; omega)]; go_simp
  have w2c4 : w2.cell? ⟨w.heap.size, 4, none⟩ = some (.pointer (some ⟨db, dO, none⟩)) := by rw [hc2 _ _ (by simp; omega)]; go_simp
  have w2c5 : w2.cell? ⟨w.heap.size, 5, none⟩ = some (.slice none 0 0) := by rw [hc2 _ _ (by simp; omega)]; go_simp
  have w2c6 : w2.cell? ⟨w.heap.size, 6, none⟩ = some (.slice none 0 0) := by rw [hc2 _ _ (by simp; omega)]; go_simp
  have w2c7 : w2.cell? ⟨w.heap.size, 7, none⟩ = some (.slice none 0 0) := by rw [hc2 _ _ (by simp; omega)]; go_simp
  have w2c8 : w2.cell? ⟨w.heap.size, 8, none⟩ = some (.slice none 0 0) := by rw [hc2 _ _ (by simp; omega)]; go_simp
  have w2g0 : w2.cell? ⟨w1.heap.size, 0, none⟩ = some (.string r1) := by rw [hc2 _ _ (by simp)]; go_simp
  have w2g1 : w2.cell? ⟨w1.heap.size, 1, none⟩ = some (.string tid) := by rw [hc2 _ _ (by simp)]; go_simp
  have w2g2 : w2.cell? ⟨w1.heap.size, 2, none⟩ = some (.string n1) := by rw [hc2 _ _ (by simp)]; go_simp
  have w2g3 : w2.cell? ⟨w1.heap.size, 3, none⟩ = some (.float .f64 s) := by rw [hc2 _ _ (by simp)]; go_simp
  have w2g4 : w2.cell? ⟨w1.heap.size, 4, none⟩ = some (.float .f64 d) := by rw [hc2 _ _ (by simp)]; go_simp
  clear hc2 hf2 hb
  clear w1c0 w1c1 w1c2 w1c3 w1c4 w1c5 w1c6 w1c7 w1c8
  go_wp2_with (go_at_call 7; refine (same_any _ _).mono ?_; rintro e w3 ⟨rfl, hw⟩; have hw2 := hw.symm; clear hw; subst hw2)
  refine (zz_no F r1 tid n1 j1 (some ⟨sb, so, none⟩) (some ⟨db, dO, none⟩) _ _ ?f2 ?h2).mono ?k2
  case h2 => exact .inr (.inl (other_ne tid))
  case f2 => exact (show F.answers w2.tape by rw [hB2.tape]; exact hF)
  case k2 =>
  rintro e w3 ⟨⟨a3, rfl⟩, hb⟩
  have hB3 : Below w.heap.size w w3 := hB2.trans (((Below.refl _ w2).alloc (Nat.le_refl _) _).trans (hb.mono (by simp)) |>.mono hB2.size)
  clear hb
  go_wp2
  go_ret
  exact ⟨rfl, hB3.alloc hB3.size _⟩
end Go.Proofs.Qxb6615944aFmt
