import Derived.Test.Qxb6614570aFmtAddNil
namespace Go.Proofs.Qxb6614570aFmt
open Go.RowKit
set_option linter.unusedVariables false

/-- a state stays a state while new blocks are laid and draws are made -/
theorem MC.later {L : Lay} {w w' : World} {cm : Option Nat} {k r rel : Nat} (h : MC L w cm k r rel) (hb : Below w.heap.size w w') : MC L w' cm k r rel := by
  have lC : ∀ C, cm = some C → C < w.heap.size := fun C e => by
    obtain ⟨_, _, _, _, _, D0, m0, hown, _⟩ := h.mapC C e
    exact hown.lt
  obtain ⟨lM, lD, lS, lH, c0, c1, c2, c4, c5, c6, c7, c8, c9, fM, d, fD, s0, s1, fS, hH, fH, rk, kk, map0, mapC⟩ := h
  have z := hb.size
  have c : ∀ b o, b < w.heap.size → w'.cell? ⟨b, o, none⟩ = w.cell? ⟨b, o, none⟩ := fun b o hl => hb.cell (p := ⟨b, o, none⟩) hl
  have f : ∀ b o, b < w.heap.size → w'.frozen? ⟨b, o, none⟩ = w.frozen? ⟨b, o, none⟩ := fun b o hl => hb.frozen (p := ⟨b, o, none⟩) hl
  exact ⟨by omega, by omega, by omega, by omega, (c _ _ lM).trans c0, (c _ _ lM).trans c1, (c _ _ lM).trans c2, (c _ _ lM).trans c4, (c _ _ lM).trans c5, (c _ _ lM).trans c6, (c _ _ lM).trans c7, (c _ _ lM).trans c8, (c _ _ lM).trans c9,
    fun j => (f _ _ lM).trans (fM j), (c _ _ lD).trans d, fun j => (f _ _ lD).trans (fD j), (c _ _ lS).trans s0, (c _ _ lS).trans s1, fun j => (f _ _ lS).trans (fS j), fun j hj => (c _ _ lH).trans (hH j hj), fun j => (f _ _ lH).trans (fH j), rk, kk, map0,
    fun C e => by
      obtain ⟨a1, a2, a3, a4, a5, a6⟩ := mapC C e
      exact ⟨a1, a2, a3, a4, a5, a6.of_block (hb.block C (lC C e))⟩⟩

theorem MC.lC {L : Lay} {w : World} {C k r rel : Nat} (h : MC L w (some C) k r rel) : C < w.heap.size := by
  obtain ⟨_, _, _, _, _, D0, m0, hown, _⟩ := h.mapC C rfl
  exact hown.lt

/-- the block of a new message -/
abbrev msgBlock (L : Lay) (k : Nat) : Obj := .cells #[.int .i64 (L.n : Int), .int .u32 0, .int .i64 (L.id : Int), .int .u32 0, .int .u32 ((k : Int) + 1), .slice none 0 0] 51

/-- 'add' of the message that Send has made -/
theorem add_any (L : Lay) (ok : L.Ok) (w : World) (cm : Option Nat) (k r rel g : Nat) (h : MC L w cm k r rel) (hk1 : k < 131072) (hg : Msg L w g k) (hgC : cm ≠ some g) :
    Calls Tryf.prog 16 #[.pointer (some ⟨L.M, 0, none⟩), .pointer (some ⟨g, 0, none⟩)] w
      fun e w' => (∃ v, e = .returned v) ∧ (∃ C, MC L w' (some C) (k + 1) r rel) ∧ Below L.B w w' := by
  cases cm with
  | none => exact add_none L ok w k r rel g h hk1 hg
  | some C => exact (add_some L ok w C k r rel g h hk1 hg (fun e => hgC (by rw [e]))).mono fun e w' ⟨h1, h2, h3⟩ => ⟨h1, ⟨C, h2⟩, h3⟩

set_option maxHeartbeats 1000000 in
set_option maxRecDepth 100000 in
theorem send_any (L : Lay) (ok : L.Ok) (w : World) (cm : Option Nat) (k r rel : Nat) (h : MC L w cm k r rel) (hk1 : k < 131072) :
    Calls Tryf.prog 7 #[.pointer (some ⟨L.M, 0, none⟩), .slice none 0 0] w
      fun e w' => (∃ a, e = .returned (.tuple #[.pointer (some a), .nilIface])) ∧ (∃ C, MC L w' (some C) (k + 1) r rel) ∧ Below L.B w w' := by
  have hb : Below w.heap.size w ((w.alloc (msgBlock L k)).drew.drew) := ((Below.refl _ w).alloc (Nat.le_refl _) _).drew.drew
  have h' := h.later hb
  have hne : cm ≠ some w.heap.size := fun e => by subst e; have := h.lC; omega
  have hmsg : Msg L ((w.alloc (msgBlock L k)).drew.drew) w.heap.size k :=
    ⟨by simp, by have := h.lM; omega, by have := h.lD; omega, by have := h.lS; omega, by have := h.lH; omega, by go_simp, by go_simp⟩
  have ADD := add_any L ok _ cm k r rel w.heap.size h' hk1 hmsg hne
  have hBB : L.B ≤ w.heap.size := by have := h.lM; have := ok.bM; omega
  obtain ⟨lM, lD, lS, lH, c0, c1, c2, c4, c5, c6, c7, c8, c9, fM, d, fD, s0, s1, fS, hH, fH, rk, kk, map0, mapC⟩ := h
  have idn := ok.idn
  have small := ok.small
  have hid : (L.id : Int) < (L.n : Int) := by omega
  have hmx : ((k : Int) == 4294967295) = false := by simp; omega
  have HW : Hid (IntKind.u32.wrap ((k : Int) + 1) = (k : Int) + 1) := by unfold Hid; rw [IntKind.wrap_u32']; omega
  clear map0 mapC hH fH fM fD fS s0 s1 c4 c5 c8 c9 h' hmsg hne
  go_enter Tryf.func7, Tryf.ntmps7
  go_wp2
  go_region
  go_upto_region 4 with fail
  go_cut [7] (fun s wx => s = .pointer (some ⟨w.heap.size, 0, none⟩) ∧ wx = (w.alloc (msgBlock L k)).drew.drew)
  case first =>
    go_region_with (go_at_call 15; refine (life_any L.M _ _ (by go_simp)).mono ?_; rintro e w' ⟨rfl, rfl⟩)
    all_goals
      go_wp2_with fail
      go_meet
      case rel => exact ⟨rfl, by rw [HW.out]⟩
  case rest =>
  obtain ⟨rfl, rfl⟩ := hcut
  go_wp2_with (go_at_call 16; refine ADD.mono ?_; rintro e w' ⟨⟨v, rfl⟩, hmc, hbel⟩)
  go_ret2
  exact ⟨⟨_, rfl⟩, hmc, ((hb.mono hBB).trans hbel)⟩
end Go.Proofs.Qxb6614570aFmt
