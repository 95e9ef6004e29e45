import Derived.Test.Qxb6615944aFmtZz
import Derived.Test.Qxb6615944aFmtBytes
import Derived.Deep.DeepCutAuto
namespace Go.Proofs.Qxb6615944aFmt
open Go.RowKit Go.Extern.Stop Go.Stop Go.Extern
attribute [local go_sem] run_store_float

set_option maxHeartbeats 2000000 in
set_option maxRecDepth 100000 in
theorem gives_yes (rid tid nm pj kt : ByteArray) (sb so db dO s d : Nat) (w : World) (ha : rid.size ≤ maxLen) (hb : tid.size ≤ maxLen) (hc : nm.size ≤ maxLen) (hd : pj.size ≤ maxLen) (hf : kt.size ≤ maxLen)
    (h0 : tid.toList.isEmpty = false) (h1 : (tid.toList == kt.toList) = true)
    (hsb : sb < w.heap.size) (hs : w.cell? ⟨sb, so, none⟩ = some (.float .f64 s)) (hdb : db < w.heap.size) (hd' : w.cell? ⟨db, dO, none⟩ = some (.float .f64 d)) :
    Calls Tryf.prog 3 #[.string rid, .string tid, .string nm, .pointer (some ⟨sb, so, none⟩), .pointer (some ⟨db, dO, none⟩), .string pj, .string kt] w
      fun e w' => e = .returned (.bool true) ∧ Below w.heap.size w w' := by
  have Z := zzGives_any rid tid nm pj kt (.pointer (some ⟨sb, so, none⟩)) (.pointer (some ⟨db, dO, none⟩)) w ha hb hc hd hf
  unfold maxLen at *
  have hs1 : sb < w.heap.size + 1 := by omega
  have hd1 : db < w.heap.size + 1 := by omega
  go_enter Tryf.func3, Tryf.ntmps3
  go_upto_region 5 with (go_at_call 5; refine Z.mono ?_; rintro e w' ⟨r, rfl, hw⟩; have hw2 := hw.symm; clear hw; subst hw2)
  all_goals first | (go_ret; exact ⟨rfl, Below.refl _ _⟩) | skip
  clear Z
  go_wp2_with (go_at_call 6; refine (zz_yes rid tid nm pj sb so db dO s d kt _ h0 h1 ?c0 ?c1 ?c2 ?c3).mono ?k)
  case c0 => simp; omega
  case c1 => go_simp
  case c2 => simp; omega
  case c3 => go_simp
  case k =>
  rintro e w1 ⟨rfl, hb1⟩
  have hz : w.heap.size < w1.heap.size := by have := hb1.size; simp at this; omega
  have hB1 : Below w.heap.size w w1 := ((Below.refl _ w).alloc (Nat.le_refl _) _).trans (hb1.mono (by simp))
  clear hb1
  go_wp2_with (go_at_call 7; refine (same_any _ _).mono ?_; rintro e w2 ⟨rfl, hw⟩; have hw2 := hw.symm; clear hw; subst hw2)
  refine (zz_yes rid tid nm pj (w1.heap.size + 1) 0 (w1.heap.size + 1 + 1) 0 s d kt _ h0 h1 ?c4 ?c5 ?c6 ?c7).mono ?k2
  case c4 => simp
  case c5 => go_simp
  case c6 => simp
  case c7 => go_simp
  case k2 =>
  rintro e w2 ⟨rfl, hb2⟩
  obtain ⟨hc2, hf2⟩ := bcell hb2
  have hz2 : w1.heap.size < w2.heap.size := by have := hb2.size; simp at this; omega
  have g0 : w2.cell? ⟨w1.heap.size, 0, none⟩ = some (.string rid) := by rw [hc2 _ _ (by simp; omega)]; go_simp
  have g1 : w2.cell? ⟨w1.heap.size, 1, none⟩ = some (.string tid) := by rw [hc2 _ _ (by simp; omega)]; go_simp
  have g2 : w2.cell? ⟨w1.heap.size, 2, none⟩ = some (.string nm) := by rw [hc2 _ _ (by simp; omega)]; go_simp
  have g3 : w2.cell? ⟨w1.heap.size, 3, none⟩ = some (.float .f64 s) := by rw [hc2 _ _ (by simp; omega)]; go_simp
  have g4 : w2.cell? ⟨w1.heap.size, 4, none⟩ = some (.float .f64 d) := by rw [hc2 _ _ (by simp; omega)]; go_simp
  have hB2 : Below w.heap.size w w2 := hB1.trans (((((Below.refl _ w1).alloc (Nat.le_refl _) _).alloc (by simp) _).alloc (by simp; omega) _).alloc (by simp; omega) _ |>.trans (hb2.mono (by simp; omega)) |>.mono hB1.size)
  clear hb2 hc2 hf2
  go_wp2_with (go_at_call 7; refine (same_any _ _).mono ?_; rintro e w3 ⟨rfl, hw⟩; have hw2 := hw.symm; clear hw; subst hw2)
  go_ret
  exact ⟨rfl, hB2.alloc hB2.size _⟩
end Go.Proofs.Qxb6615944aFmt
