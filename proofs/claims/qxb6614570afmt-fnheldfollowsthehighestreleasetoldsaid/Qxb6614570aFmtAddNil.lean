import Derived.Test.Qxb6614570aFmtAdd
namespace Go.Proofs.Qxb6614570aFmt
open Go.RowKit
set_option linter.unusedVariables false

set_option maxHeartbeats 1000000 in
set_option maxRecDepth 100000 in
theorem add_none (L : Lay) (ok : L.Ok) (w : World) (k r rel g : Nat) (h : MC L w none k r rel) (hk1 : k < 131072) (hg : Msg L w g k) :
    Calls Tryf.prog 16 #[.pointer (some ⟨L.M, 0, none⟩), .pointer (some ⟨g, 0, none⟩)] w
      fun e w' => (∃ v, e = .returned v) ∧ (∃ C, MC L w' (some C) (k + 1) r rel) ∧ Below L.B w w' := by
  obtain ⟨lM, lD, lS, lH, c0, c1, c2, c4, c5, c6, c7, c8, c9, fM, d, fD, s0, s1, fS, hH, fH, rk, kk, map0, mapC⟩ := id h
  obtain rfl : k = 0 := map0 rfl
  obtain rfl : r = 0 := by omega
  obtain ⟨gl, gM, gD, gS, gH, gs, gq⟩ := hg
  have ok' := ok
  obtain ⟨bM, bD, bS, bH, MD, MS, MH, DS, DH, SH, idn, small, words, capD, capS, capH⟩ := ok
  have hid : (L.id : Int) < (L.n : Int) := by omega
  have hq : L.id / 64 < L.nh := by omega
  clear words
  have l0 : (Instr.lookup 59 (.map none) (.int .u32 1) false).run Tryf.prog w.drew.drew = .ok (.pointer none) w.drew.drew := Maps.look_nil false keyed40 Tryf.underlying59 (zero26 _) (key40 (i := 1) (by omega))
  have q59 : ∀ (w : World) (r : Option Nat), (binOp .eql 59 (.map r) (.map none)).run Tryf.prog w = .ok (.bool r.isNone) w := fun w r => run_eql_map_nil w _ _ _ r Tryf.underlying59
  have hmm := @run_makeMap Tryf.prog
  have d' : w.cell? ⟨L.D, L.id, none⟩ = some (.int .u32 0) := d
  have gq' : w.cell? ⟨g, 4, none⟩ = some (.int .u32 1) := gq
  have c5' : w.cell? ⟨L.M, 5, none⟩ = some (.int .i64 0) := c5
  have hh0 : w.cell? ⟨L.H, L.id / 64, none⟩ = some (.int .u64 0) := by rw [hH _ hq]; simp [word]
  obtain ⟨X, hX⟩ : ∃ X, X = w.setCell ⟨L.S, L.id * 4 + 1, none⟩ (.map (some w.heap.size)) := ⟨_, rfl⟩
  have hXs : X.heap.size = w.heap.size := by rw [hX]; simp [World.setCell]
  have hmap : MapI (X.alloc (.map #[] 0)) w.heap.size 0 0 := by rw [← hXs]; exact MapI.made X
  obtain ⟨W4, hu, hgrow, HM⟩ := (hmap.of_block (W := (X.alloc (.map #[] 0)).drew.drew.drew) rfl).put (Nat.le_refl _) (by omega) ⟨g, 0, none⟩
  have hu' : (Instr.mapUpdate 59 (.map (some w.heap.size)) (.int .u32 1) (.pointer (some ⟨g, 0, none⟩))).run Tryf.prog (X.alloc (.map #[] 0)).drew.drew.drew = .ok () W4 := hu
  have h3 := undrew3 hgrow
  clear hu hgrow hmap
  have CM : w.heap.size ≠ L.M := by omega
  have CD : w.heap.size ≠ L.D := by omega
  have CS : w.heap.size ≠ L.S := by omega
  have CH : w.heap.size ≠ L.H := by omega
  have hgC : g ≠ w.heap.size := by omega
  have old : ∀ b, b < w.heap.size → b ≠ L.S → W4.heap[b]? = w.heap[b]? := fun b hlt hS => by
    rw [h3.block b (by simp; omega) (fun e => by have := Option.some.inj e; omega), Below.heap_alloc _ _ _ (by omega), hX]
    exact Below.heap_setCell _ _ _ _ hS
  have oc : ∀ b o v, b < w.heap.size → b ≠ L.S → w.cell? ⟨b, o, none⟩ = some v → W4.cell? ⟨b, o, none⟩ = some v := fun b o v hlt hS hv => (World.cell?_of_block (w := w) (a := ⟨b, o, none⟩) (old b hlt hS)).trans hv
  have of : ∀ b o, b < w.heap.size → b ≠ L.S → W4.frozen? ⟨b, o, none⟩ = w.frozen? ⟨b, o, none⟩ := fun b o hlt hS => World.frozen?_of_block (w := w) (a := ⟨b, o, none⟩) (old b hlt hS)
  have e5 := oc _ _ _ lM MS c5'
  have e7 := oc _ _ _ lM MS c7
  have e8 := oc _ _ _ lM MS c8
  have e9 := oc _ _ _ lM MS c9
  have ed := oc _ _ _ lD DS d'
  have eg := oc _ _ _ gl gS gs
  have eh := oc _ _ _ lH (Ne.symm SH) hh0
  have sX : ∀ o v, (X.alloc (.map #[] 0)).cell? ⟨L.S, o, none⟩ = some v → W4.cell? ⟨L.S, o, none⟩ = some v := fun o v hv => grown_cell h3 hv (Ne.symm CS)
  have es : W4.cell? ⟨L.S, L.id * 4 + 1, none⟩ = some (.map (some w.heap.size)) := sX _ _ (by rw [hX]; go_simp)
  have es0 : W4.cell? ⟨L.S, L.id * 4, none⟩ = some (.int .u32 (rel : Int)) := sX _ _ (by rw [hX]; go_simp)
  have fM4 : ∀ j, W4.frozen? ⟨L.M, j, none⟩ = false := fun j => (of _ _ lM MS).trans (fM j)
  have fD4 : ∀ j, W4.frozen? ⟨L.D, j, none⟩ = false := fun j => (of _ _ lD DS).trans (fD j)
  have fH4 : ∀ j, W4.frozen? ⟨L.H, j, none⟩ = false := fun j => (of _ _ lH (Ne.symm SH)).trans (fH j)
  have fS4 : ∀ j, W4.frozen? ⟨L.S, j, none⟩ = false := fun j => by
    rw [grown_frozen h3 (p := ⟨L.S, j, none⟩) (by simp; omega) (Ne.symm CS), hX]; go_simp
  have z4 := h3.size
  rw [World.size_alloc, hXs] at z4
  have lC4 : w.heap.size < W4.heap.size := by omega
  have lM4 : L.M < W4.heap.size := by omega
  have lD4 : L.D < W4.heap.size := by omega
  have lS4 : L.S < W4.heap.size := by omega
  have lH4 : L.H < W4.heap.size := by omega
  have hmg : L.M ≠ g := Ne.symm gM
  have hhg : L.H ≠ g := Ne.symm gH
  have A := setAdd_any L.H L.id L.nh L.ch 0 ((W4.setCell ⟨L.M, 5, none⟩ (.int .i64 1)).drew) (by omega) hq (.inl rfl) (by go_simp) (by go_simp)
  have HX : MapI (addedTo L W4 1) w.heap.size 1 0 := HM.of_block (by
    show ((W4.setCell _ _).setCell _ _).heap[w.heap.size]? = _
    rw [Below.heap_setCell _ _ _ _ CH, Below.heap_setCell _ _ _ _ CM])
  have Y1 : LookYes (addedTo L W4 1) w.heap.size (((0 : Nat) : Int) + 1) := HX.yes (i := 1) (by omega) (by omega) (by omega)
  have Y2 : LookNo (addedTo L W4 1) w.heap.size (((0 : Nat) : Int) + 1 + 1) := HX.no (i := 2) (by omega) (by omega)
  have DL := deliver_any L.M L.D L.S w.heap.size L.id L.n L.cd L.cs 0 (addedTo L W4 1) idn small (by omega) MD (Ne.symm DS) CD (by simpa [World.setCell] using lD4) (by simpa [World.setCell] using lC4) (by simpa [World.setCell] using lM4) (by simpa [World.setCell] using lS4)
    (by go_simp) (by go_simp) (by go_simp) (fun j => by go_simp) (by go_simp) Y1 Y2
  have FIN : ∀ w', Below (addedTo L W4 1).heap.size ((addedTo L W4 1).setCell ⟨L.D, L.id, none⟩ (.int .u32 (((0 : Nat) : Int) + 1))) w' → MC L w' (some w.heap.size) (0 + 1) 0 rel ∧ Below L.B w w' := fun w' hb =>
    h.added ok' hk1 (by omega) CM CD CS CH lC4 ⟨by rw [h3.os]; rw [hX]; rfl, by rw [h3.tape]; rw [hX]; rfl, by rw [h3.output]; rw [hX]; rfl, by omega⟩ (fun b hlt _ hS => old b hlt hS) es0 es fS4 HM (w' := w') hb
  clear Y1 Y2 HX HM h3 hh0 old oc of sX eh h ok' s0 es0
  clear c0 c1 c2 c4 c6 map0 mapC d gq c5 hH
  subst hX
  go_enter Tryf.func16, Tryf.ntmps16
  go_wp2
  go_region
  go_wp2
  go_region
  go_wp2
  go_region
  clear l0 hu' hmm q59
  go_upto_region 8 with fail
  go_region_with (go_at_call 21; refine A.mono ?_; rintro e w' ⟨rfl, rfl⟩)
  all_goals
    go_wp2_with fail
    refine DL.mono ?_
    rintro e w' ⟨⟨v, rfl⟩, hb⟩
    have F := FIN w' hb
    clear FIN DL A hb
    go_wp2
    go_ret
    exact ⟨⟨_, rfl⟩, ⟨_, F.1⟩, F.2⟩
end Go.Proofs.Qxb6614570aFmt
