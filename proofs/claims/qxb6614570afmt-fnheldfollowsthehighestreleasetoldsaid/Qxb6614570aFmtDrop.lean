import Derived.Test.Qxb6614570aFmtSend
namespace Go.Proofs.Qxb6614570aFmt
open Go.RowKit
set_option linter.unusedVariables false

/-- what 'drop' and a round of Release leave as it was: all blocks but M, S, H and the map; the words of H but one -/
structure Touch (L : Lay) (cm : Option Nat) (w w' : World) : Prop where
  os : w'.os = w.os
  tape : w'.tape = w.tape
  output : w'.output = w.output
  size : w'.heap.size = w.heap.size
  block : ∀ b, b ≠ L.M → b ≠ L.S → b ≠ L.H → cm ≠ some b → w'.heap[b]? = w.heap[b]?
  words : ∀ j, j ≠ L.id / 64 → w'.cell? ⟨L.H, j, none⟩ = w.cell? ⟨L.H, j, none⟩

theorem Touch.refl (L : Lay) (cm : Option Nat) (w : World) : Touch L cm w w := ⟨rfl, rfl, rfl, rfl, fun _ _ _ _ _ => rfl, fun _ _ => rfl⟩
theorem Touch.drew {L : Lay} {cm : Option Nat} {w w' : World} (h : Touch L cm w w') : Touch L cm w w'.drew := ⟨h.os, h.tape, h.output, h.size, h.block, h.words⟩
theorem Touch.trans {L : Lay} {cm : Option Nat} {w w' w'' : World} (h : Touch L cm w w') (k : Touch L cm w' w'') : Touch L cm w w'' :=
  ⟨k.os.trans h.os, k.tape.trans h.tape, k.output.trans h.output, k.size.trans h.size, fun b h1 h2 h3 h4 => (k.block b h1 h2 h3 h4).trans (h.block b h1 h2 h3 h4), fun j hj => (k.words j hj).trans (h.words j hj)⟩

/-- 'drop''s plain law -/
theorem MC.dropped {L : Lay} {w W w' : World} {C k r rel : Nat} (h : MC L w (some C) k r rel) (ok : L.Ok) (hrk : r < k)
    (ht : w.mapTurned W C) (hm : MapI W C k (r + 1))
    (e1 : w'.os = W.os ∧ w'.tape = W.tape ∧ w'.output = W.output ∧ w'.heap.size = W.heap.size)
    (hc : ∀ (b o : Nat), (b ≠ L.M ∨ o ≠ 5) → (b ≠ L.H ∨ o ≠ L.id / 64) → w'.cell? ⟨b, o, none⟩ = W.cell? ⟨b, o, none⟩)
    (hf : ∀ (b o : Nat), w'.frozen? ⟨b, o, none⟩ = W.frozen? ⟨b, o, none⟩)
    (hb : ∀ b, b ≠ L.M → b ≠ L.H → w'.heap[b]? = W.heap[b]?)
    (h5 : w'.cell? ⟨L.M, 5, none⟩ = some (.int .i64 ((k : Int) - r - 1)))
    (h9 : w'.cell? ⟨L.H, L.id / 64, none⟩ = some (.int .u64 (word L.id (decide (r + 1 < k)) (L.id / 64)))) :
    MC L w' (some C) k (r + 1) rel ∧ Touch L (some C) w w' := by
  have lC := h.lC
  obtain ⟨lM, lD, lS, lH, c0, c1, c2, c4, c5, c6, c7, c8, c9, fM, d, fD, s0, s1, fS, hH, fH, rk, kk, map0, mapC⟩ := h
  obtain ⟨bM, bD, bS, bH, MD, MS, MH, DS, DH, SH, idn, small, words, capD, capS, capH⟩ := ok
  obtain ⟨bC, CM, CD, CS, CH, _⟩ := mapC C rfl
  obtain ⟨o1, o2, o3, o4⟩ := e1
  have g := ht.grown
  have old : ∀ (b o : Nat), b < w.heap.size → b ≠ C → (b ≠ L.M ∨ o ≠ 5) → (b ≠ L.H ∨ o ≠ L.id / 64) → w'.cell? ⟨b, o, none⟩ = w.cell? ⟨b, o, none⟩ := fun b o hl h1 h2 h3 =>
    (hc b o h2 h3).trans (World.cell?_of_block (g.block b hl (fun e => h1 (Option.some.inj e))))
  have oldf : ∀ (b o : Nat), w'.frozen? ⟨b, o, none⟩ = w.frozen? ⟨b, o, none⟩ := fun b o => (hf b o).trans (ht.frozen _)
  have hsz : W.heap.size = w.heap.size := by
    obtain ⟨es, ck, es', ck', _, rfl⟩ := ht
    simp [Go.ChangeMaps.setBlock]
  refine ⟨⟨by omega, by omega, by omega, by omega, (old _ _ lM (Ne.symm CM) (.inr (by omega)) (.inl MH)).trans c0, (old _ _ lM (Ne.symm CM) (.inr (by omega)) (.inl MH)).trans c1, (old _ _ lM (Ne.symm CM) (.inr (by omega)) (.inl MH)).trans c2, (old _ _ lM (Ne.symm CM) (.inr (by omega)) (.inl MH)).trans c4, ?_, (old _ _ lM (Ne.symm CM) (.inr (by omega)) (.inl MH)).trans c6, (old _ _ lM (Ne.symm CM) (.inr (by omega)) (.inl MH)).trans c7, (old _ _ lM (Ne.symm CM) (.inr (by omega)) (.inl MH)).trans c8, (old _ _ lM (Ne.symm CM) (.inr (by omega)) (.inl MH)).trans c9,
    fun j => (oldf _ _).trans (fM j), (old _ _ lD (Ne.symm CD) (.inl (Ne.symm MD)) (.inl DH)).trans d, fun j => (oldf _ _).trans (fD j), (old _ _ lS (Ne.symm CS) (.inl (Ne.symm MS)) (.inl SH)).trans s0, (old _ _ lS (Ne.symm CS) (.inl (Ne.symm MS)) (.inl SH)).trans s1, fun j => (oldf _ _).trans (fS j), ?_, fun j => (oldf _ _).trans (fH j), by omega, kk, (fun e => by cases e), ?_⟩, ?_⟩
  · rw [h5]; congr 2; omega
  · intro j hj
    by_cases e : j = L.id / 64
    · subst e; exact h9
    · rw [old _ _ lH (Ne.symm CH) (.inl (Ne.symm MH)) (.inr e), hH j hj, word_other e]
  · intro C' e
    obtain rfl : C' = C := (Option.some.inj e).symm
    exact ⟨bC, CM, CD, CS, CH, hm.of_block (hb C' CM CH)⟩
  · refine ⟨o1.trans g.os, o2.trans g.tape, o3.trans g.output, by omega, fun b h1 h2 h3 h4 => ?_, fun j hj => old _ _ lH (Ne.symm CH) (.inl (Ne.symm MH)) (.inr hj)⟩
    rw [hb b h1 h3]
    by_cases hl : b < w.heap.size
    · exact g.block b hl (fun e => h4 e.symm)
    · rw [Array.getElem?_eq_none (by omega), Array.getElem?_eq_none (by omega)]

theorem word_le (id : Nat) (b : Bool) (h : b = true) : word id b (id / 64) = 2 ^ (id % 64) := by subst h; exact word_true id

set_option maxHeartbeats 1000000 in
set_option maxRecDepth 100000 in
/-- 'drop(id, r+1)' -/
theorem drop_any (L : Lay) (ok : L.Ok) (w : World) (C k r rel : Nat) (h : MC L w (some C) k r rel) (hrk : r < k) :
    Calls Tryf.prog 18 #[.pointer (some ⟨L.M, 0, none⟩), .int .i64 (L.id : Int), .int .u32 ((r : Int) + 1)] w
      fun e w' => e = .returned (.tuple #[]) ∧ MC L w' (some C) k (r + 1) rel ∧ Touch L (some C) w w' := by
  obtain ⟨lM, lD, lS, lH, c0, c1, c2, c4, c5, c6, c7, c8, c9, fM, d, fD, s0, s1, fS, hH, fH, rk, kk, map0, mapC⟩ := id h
  obtain ⟨bC, CM, CD, CS, CH, hmap⟩ := mapC C rfl
  have ok' := ok
  obtain ⟨bM, bD, bS, bH, MD, MS, MH, DS, DH, SH, idn, small, words, capD, capS, capH⟩ := ok
  have hq : L.id / 64 < L.nh := by omega
  clear words
  obtain ⟨W4, hu, hturn, hmap4⟩ := hmap.del hrk kk 0
  have h3 := hturn.grown
  have e5 := grown_cell h3 c5 (Ne.symm CM)
  have e8 := grown_cell h3 c8 (Ne.symm CM)
  have e9 := grown_cell h3 c9 (Ne.symm CM)
  have es := grown_cell h3 s1 (Ne.symm CS)
  have eh := grown_cell h3 (hH _ hq) (Ne.symm CH)
  rw [word_le _ _ (by simpa using hrk)] at eh
  have fM4 : ∀ j, W4.frozen? ⟨L.M, j, none⟩ = false := fun j => (hturn.frozen _).trans (fM j)
  have fH4 : ∀ j, W4.frozen? ⟨L.H, j, none⟩ = false := fun j => (hturn.frozen _).trans (fH j)
  have FIN := fun w' => h.dropped ok' hrk hturn hmap4 (w' := w')
  have HL := (hmap4.of_block (W := W4.setCell ⟨L.M, 5, none⟩ (.int .i64 ((k : Int) - r - 1))) (Below.heap_setCell _ _ _ _ CM)).len 3
  clear h3 hturn hmap4 hmap mapC map0 h hH fM fH fS fD s0 d c0 c1 c2 c4 c6 c7 c9 c5
  by_cases hz : r + 1 = k
  · have A := setRemove_any L.H L.id L.nh L.ch (W4.setCell ⟨L.M, 5, none⟩ (.int .i64 ((k : Int) - r - 1))) (by omega) hq (by go_simp) (by go_simp)
    have hz' : k - (r + 1) = 0 := by omega
    rw [hz'] at HL
    have F := FIN (setWord (W4.setCell ⟨L.M, 5, none⟩ (.int .i64 ((k : Int) - r - 1))) L.H L.id 0) ⟨rfl, rfl, rfl, by simp [World.setCell]⟩ ?c ?f ?b ?h5 ?h9
    case c =>
      intro b o h1 h2
      show ((W4.setCell _ _).setCell _ _).cell? _ = _
      rw [World.cell?_setCell_other _ _ _ _ (by intro e; simp at e <;> omega), World.cell?_setCell_other _ _ _ _ (by intro e; simp at e <;> omega)]
    case f =>
      intro b o
      show ((W4.setCell _ _).setCell _ _).frozen? _ = _
      rw [World.frozen?_setCell, World.frozen?_setCell]
    case b =>
      intro b h1 h2
      show ((W4.setCell _ _).setCell _ _).heap[b]? = _
      rw [Below.heap_setCell _ _ _ _ h2, Below.heap_setCell _ _ _ _ h1]
    case h5 =>
      show ((W4.setCell _ _).setCell _ _).cell? _ = _
      rw [World.cell?_setCell_other _ _ _ _ (by intro e; simp at e <;> omega), World.cell?_setCell_same' _ _ _ (by rw [e5]; rfl)]
    case h9 =>
      show ((W4.setCell _ _).setCell _ _).cell? _ = _
      rw [World.cell?_setCell_same' _ _ _ (by rw [World.cell?_setCell_other _ _ _ _ (by intro e; simp at e <;> omega), eh]; rfl)]
      have : decide (r + 1 < k) = false := by simp; omega
      rw [this, word_false]
    clear FIN
    go_enter Tryf.func18, Tryf.ntmps18
    go_wp2_with (go_at_call 25; refine A.mono ?_; rintro e w' ⟨rfl, rfl⟩)
    go_end0
    exact ⟨rfl, F⟩
  · have hz' : (((k - (r + 1) : Nat) : Int) == 0) = false := by simp; omega
    have F := FIN (W4.setCell ⟨L.M, 5, none⟩ (.int .i64 ((k : Int) - r - 1))) ⟨rfl, rfl, rfl, by simp [World.setCell]⟩ ?c ?f ?b ?h5 ?h9
    case c =>
      intro b o h1 h2
      rw [World.cell?_setCell_other _ _ _ _ (by intro e; simp at e <;> omega)]
    case f =>
      intro b o
      rw [World.frozen?_setCell]
    case b =>
      intro b h1 h2
      rw [Below.heap_setCell _ _ _ _ h1]
    case h5 => rw [World.cell?_setCell_same' _ _ _ (by rw [e5]; rfl)]
    case h9 =>
      rw [World.cell?_setCell_other _ _ _ _ (by intro e; simp at e <;> omega), eh]
      have : decide (r + 1 < k) = true := by simp; omega
      rw [this, word_true]
    clear FIN
    go_enter Tryf.func18, Tryf.ntmps18
    go_wp2
    go_end0
    exact ⟨rfl, F⟩
end Go.Proofs.Qxb6614570aFmt
