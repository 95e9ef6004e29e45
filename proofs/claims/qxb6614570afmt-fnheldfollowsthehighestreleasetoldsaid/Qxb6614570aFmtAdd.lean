import Derived.Test.Qxb6614570aFmtAddLaw
namespace Go.Proofs.Qxb6614570aFmt
open Go.RowKit
set_option linter.unusedVariables false

theorem undrew3 {w W : World} {row : Option Nat} (h : w.drew.drew.drew.grownBy W row) : w.grownBy W row := ⟨h.os, h.tape, h.output, h.size, h.block⟩

set_option maxHeartbeats 1000000 in
set_option maxRecDepth 100000 in
theorem add_some (L : Lay) (ok : L.Ok) (w : World) (C k r rel g : Nat) (h : MC L w (some C) k r rel) (hk1 : k < 131072) (hg : Msg L w g k) (hgC : g ≠ C) :
    Calls Tryf.prog 16 #[.pointer (some ⟨L.M, 0, none⟩), .pointer (some ⟨g, 0, none⟩)] w
      fun e w' => (∃ v, e = .returned v) ∧ MC L w' (some C) (k + 1) r rel ∧ Below L.B w w' := by
  obtain ⟨lM, lD, lS, lH, c0, c1, c2, c4, c5, c6, c7, c8, c9, fM, d, fD, s0, s1, fS, hH, fH, rk, kk, map0, mapC⟩ := id h
  obtain ⟨bC, CM, CD, CS, CH, hmap⟩ := mapC C rfl
  obtain ⟨gl, gM, gD, gS, gH, gs, gq⟩ := hg
  have ok' := ok
  obtain ⟨bM, bD, bS, bH, MD, MS, MH, DS, DH, SH, idn, small, words, capD, capS, capH⟩ := ok
  have hid : (L.id : Int) < (L.n : Int) := by omega
  have hq : L.id / 64 < L.nh := by omega
  clear words
  have hle : decide ((k : Int) + 1 ≤ (k : Int)) = false := by simp; omega
  have l0 := hmap.no (i := k + 1) (by omega) (by omega) w.drew.drew rfl
  rw [show ((k + 1 : Nat) : Int) = (k : Int) + 1 by omega] at l0
  have q59 : ∀ (w : World) (r : Option Nat), (binOp .eql 59 (.map r) (.map none)).run Tryf.prog w = .ok (.bool r.isNone) w := fun w r => run_eql_map_nil w _ _ _ r Tryf.underlying59
  obtain ⟨W4, hu, hgrow, hmap4⟩ := (hmap.of_block (W := w.drew.drew.drew) rfl).put rk (by omega) ⟨g, 0, none⟩
  clear c0 c1 c2 c4 c6 map0 mapC
  go_enter Tryf.func16, Tryf.ntmps16
  go_wp2
  go_region
  go_wp2
  go_region
  go_wp2
  go_region
  have h3 := undrew3 hgrow
  have e5 := grown_cell h3 c5 (Ne.symm CM)
  have e7 := grown_cell h3 c7 (Ne.symm CM)
  have e8 := grown_cell h3 c8 (Ne.symm CM)
  have e9 := grown_cell h3 c9 (Ne.symm CM)
  have ed := grown_cell h3 d (Ne.symm CD)
  have es := grown_cell h3 s1 (Ne.symm CS)
  have eg := grown_cell h3 gs hgC
  have eh := grown_cell h3 (hH _ hq) (Ne.symm CH)
  have fM4 : ∀ j, W4.frozen? ⟨L.M, j, none⟩ = false := fun j => (grown_frozen h3 (p := ⟨L.M, j, none⟩) lM (Ne.symm CM)).trans (fM j)
  have fD4 : ∀ j, W4.frozen? ⟨L.D, j, none⟩ = false := fun j => (grown_frozen h3 (p := ⟨L.D, j, none⟩) lD (Ne.symm CD)).trans (fD j)
  have fH4 : ∀ j, W4.frozen? ⟨L.H, j, none⟩ = false := fun j => (grown_frozen h3 (p := ⟨L.H, j, none⟩) lH (Ne.symm CH)).trans (fH j)
  have fS4 : ∀ j, W4.frozen? ⟨L.S, j, none⟩ = false := fun j => (grown_frozen h3 (p := ⟨L.S, j, none⟩) lS (Ne.symm CS)).trans (fS j)
  have hw := word_self L.id (decide (r < k))
  have HM := hmap4
  have z4 := h3.size
  have lC4 : C < W4.heap.size := by obtain ⟨D0, m0, hown0, _⟩ := HM; exact hown0.lt
  have lM4 : L.M < W4.heap.size := by omega
  have lD4 : L.D < W4.heap.size := by omega
  have lS4 : L.S < W4.heap.size := by omega
  have lH4 : L.H < W4.heap.size := by omega
  generalize word L.id (decide (r < k)) (L.id / 64) = wd at hw eh
  have hmg : L.M ≠ g := Ne.symm gM
  have hhg : L.H ≠ g := Ne.symm gH
  clear c5 c7 c8 c9 d s1 gs gq fM fD fS hH fH l0 hu hgrow hmap hmap4
  have A := setAdd_any L.H L.id L.nh L.ch wd ((W4.setCell ⟨L.M, 5, none⟩ (.int .i64 ((k : Int) - r + 1))).drew) (by omega) hq hw (by go_simp) (by go_simp)
  have HX : MapI (addedTo L W4 ((k : Int) - r + 1)) C (k + 1) r := HM.of_block (by
    show ((W4.setCell _ _).setCell _ _).heap[C]? = _
    rw [Below.heap_setCell _ _ _ _ CH, Below.heap_setCell _ _ _ _ CM])
  have Y1 := HX.yes (i := k + 1) (by omega) (by omega) (by omega)
  have Y2 := HX.no (i := k + 2) (by omega) (by omega)
  rw [show ((k + 1 : Nat) : Int) = (k : Int) + 1 by omega] at Y1
  rw [show ((k + 2 : Nat) : Int) = (k : Int) + 1 + 1 by omega] at Y2
  have DL := deliver_any L.M L.D L.S C L.id L.n L.cd L.cs k (addedTo L W4 ((k : Int) - r + 1)) idn small kk MD (Ne.symm DS) CD (by simpa [World.setCell] using lD4) (by simpa [World.setCell] using lC4) (by simpa [World.setCell] using lM4) (by simpa [World.setCell] using lS4)
    (by go_simp) (by go_simp) (by go_simp) (fun j => by go_simp) (by go_simp) Y1 Y2
  have FIN := fun w' hb => h.added ok' hk1 bC CM CD CS CH lC4 ⟨h3.os, h3.tape, h3.output, h3.size⟩ (fun b hlt h1 _ => h3.block b hlt (fun e => h1 (Option.some.inj e))) (grown_cell h3 s0 (Ne.symm CS)) es fS4 HM (w' := w') hb
  clear Y1 Y2 HX HM h3 eh hw h ok' s0
  go_upto_region 8 with fail
  go_region_with (go_at_call 21; refine A.mono ?_; rintro e w' ⟨rfl, rfl⟩)
  all_goals
    go_wp2_with fail
    refine DL.mono ?_
    rintro e w' ⟨⟨v, rfl⟩, hb⟩
    have F := FIN w' hb
    clear FIN DL A hb
    go_wp2
    go_ret
    exact ⟨⟨_, rfl⟩, F⟩
end Go.Proofs.Qxb6614570aFmt
