import Derived.Test.Qxb6614570aFmtMap
import Derived.Deep.RegionWith
import Derived.Deep.DeepCutAuto
namespace Go.Proofs.Qxb6614570aFmt
open Go.RowKit
set_option linter.unusedVariables false

/-- the message that Send has just made -/
structure Msg (L : Lay) (w : World) (g k : Nat) : Prop where
  lt : g < w.heap.size
  M : g ≠ L.M
  D : g ≠ L.D
  S : g ≠ L.S
  H : g ≠ L.H
  sender : w.cell? ⟨g, 2, none⟩ = some (.int .i64 (L.id : Int))
  seq : w.cell? ⟨g, 4, none⟩ = some (.int .u32 ((k : Int) + 1))

theorem word_self (id : Nat) (b : Bool) : word id b (id / 64) = 0 ∨ word id b (id / 64) = 2 ^ (id % 64) := by
  cases b <;> simp [word]
theorem word_other {id j : Nat} {b b' : Bool} (h : j ≠ id / 64) : word id b j = word id b' j := by simp [word, h]
theorem word_true (id : Nat) : word id true (id / 64) = 2 ^ (id % 64) := by simp [word]
theorem word_false (id j : Nat) : word id false j = 0 := by simp [word]

theorem grown_cell {w W : World} {C : Nat} (hg : w.grownBy W (some C)) {p : Addr} {v : Value} (h : w.cell? p = some v) (hne : p.block ≠ C) : W.cell? p = some v :=
  hg.cell h (fun e => hne (Option.some.inj e))
theorem grown_frozen {w W : World} {C : Nat} (hg : w.grownBy W (some C)) {p : Addr} (hl : p.block < w.heap.size) (hne : p.block ≠ C) : W.frozen? p = w.frozen? p :=
  World.frozen?_of_block (hg.block p.block hl (fun e => hne (Option.some.inj e)))

/-- the world behind 'held++; holding.add(id)' -/
abbrev addedTo (L : Lay) (W4 : World) (x : Int) : World := setWord ((W4.setCell ⟨L.M, 5, none⟩ (.int .i64 x)).drew) L.H L.id (2 ^ (L.id % 64))

/-- THE STATE BEHIND add -/
theorem MC.added {L : Lay} {w W4 w' : World} {cm : Option Nat} {C k r rel : Nat} (h : MC L w cm k r rel) (ok : L.Ok) (hk1 : k < 131072)
    (bC : L.B ≤ C) (CM : C ≠ L.M) (CD : C ≠ L.D) (CS : C ≠ L.S) (CH : C ≠ L.H) (lC : C < W4.heap.size)
    (hos : W4.os = w.os ∧ W4.tape = w.tape ∧ W4.output = w.output ∧ w.heap.size ≤ W4.heap.size)
    (hblk : ∀ b, b < w.heap.size → b ≠ C → b ≠ L.S → W4.heap[b]? = w.heap[b]?)
    (hS0 : W4.cell? ⟨L.S, L.id * 4, none⟩ = some (.int .u32 (rel : Int))) (hS1 : W4.cell? ⟨L.S, L.id * 4 + 1, none⟩ = some (.map (some C))) (hSf : ∀ j, W4.frozen? ⟨L.S, j, none⟩ = false)
    (hm : MapI W4 C (k + 1) r)
    (hb : Below (addedTo L W4 ((k : Int) - r + 1)).heap.size ((addedTo L W4 ((k : Int) - r + 1)).setCell ⟨L.D, L.id, none⟩ (.int .u32 ((k : Int) + 1))) w') :
    MC L w' (some C) (k + 1) r rel ∧ Below L.B w w' := by
  obtain ⟨lM, lD, lS, lH, c0, c1, c2, c4, c5, c6, c7, c8, c9, fM, d, fD, s0, s1, fS, hH, fH, rk, kk, map0, mapC⟩ := h
  obtain ⟨bM, bD, bS, bH, MD, MS, MH, DS, DH, SH, idn, small, words, capD, capS, capH⟩ := ok
  obtain ⟨o1, o2, o3, o4⟩ := hos
  have hsz : (addedTo L W4 ((k : Int) - r + 1)).heap.size = W4.heap.size := by simp [World.setCell]
  rw [hsz] at hb
  -- a cell of old memory that none of the three stores met
  have cell : ∀ (b o : Nat), b < W4.heap.size → (b ≠ L.M ∨ o ≠ 5) → (b ≠ L.H ∨ o ≠ L.id / 64) → (b ≠ L.D ∨ o ≠ L.id) → w'.cell? ⟨b, o, none⟩ = W4.cell? ⟨b, o, none⟩ := by
    intro b o hlt h1 h2 h3
    rw [hb.cell (p := ⟨b, o, none⟩) hlt]
    rw [World.cell?_setCell_other _ _ _ _ (by intro e; simp at e <;> omega)]
    show ((W4.setCell _ _).setCell _ _).cell? _ = _
    rw [World.cell?_setCell_other _ _ _ _ (by intro e; simp at e <;> omega), World.cell?_setCell_other _ _ _ _ (by intro e; simp at e <;> omega)]
  have froz : ∀ (b o : Nat), b < W4.heap.size → w'.frozen? ⟨b, o, none⟩ = W4.frozen? ⟨b, o, none⟩ := by
    intro b o hlt
    rw [hb.frozen (p := ⟨b, o, none⟩) hlt, World.frozen?_setCell]
    show ((W4.setCell _ _).setCell _ _).frozen? _ = _
    rw [World.frozen?_setCell, World.frozen?_setCell]
  have old : ∀ (b o : Nat), b < w.heap.size → b ≠ C → b ≠ L.S → W4.cell? ⟨b, o, none⟩ = w.cell? ⟨b, o, none⟩ := fun b o hlt h1 h2 => World.cell?_of_block (hblk b hlt h1 h2)
  have oldf : ∀ (b o : Nat), b < w.heap.size → b ≠ C → b ≠ L.S → W4.frozen? ⟨b, o, none⟩ = w.frozen? ⟨b, o, none⟩ := fun b o hlt h1 h2 => World.frozen?_of_block (hblk b hlt h1 h2)
  have lM4 : L.M < W4.heap.size := by omega
  have lD4 : L.D < W4.heap.size := by omega
  have lS4 : L.S < W4.heap.size := by omega
  have lH4 : L.H < W4.heap.size := by omega
  have hsz' : W4.heap.size ≤ w'.heap.size := by have := hb.size; simp [World.setCell] at this; omega
  have cM : ∀ o v, o ≠ 5 → w.cell? ⟨L.M, o, none⟩ = some v → w'.cell? ⟨L.M, o, none⟩ = some v := fun o v ho hv => by
    rw [cell L.M o lM4 (.inr ho) (.inl MH) (.inl MD), old L.M o lM (Ne.symm CM) MS]; exact hv
  refine ⟨⟨by omega, by omega, by omega, by omega, cM 0 _ (by omega) c0, cM 1 _ (by omega) c1, cM 2 _ (by omega) c2, cM 4 _ (by omega) c4, ?_, cM 6 _ (by omega) c6, cM 7 _ (by omega) c7, cM 8 _ (by omega) c8, cM 9 _ (by omega) c9, ?_, ?_, ?_, ?_, ?_, ?_, ?_, ?_, by omega, by omega, (fun e => by cases e), ?_⟩, ?_⟩
  · rw [hb.cell (p := ⟨L.M, 5, none⟩) lM4]
    rw [World.cell?_setCell_other _ _ _ _ (by intro e; simp at e <;> omega)]
    show ((W4.setCell _ _).setCell _ _).cell? _ = _
    rw [World.cell?_setCell_other _ _ _ _ (by intro e; simp at e <;> omega), World.cell?_setCell_same' _ _ _ (by rw [old L.M 5 lM (Ne.symm CM) MS, c5]; rfl)]
    congr 2; omega
  · intro j; rw [froz _ _ lM4, oldf _ _ lM (Ne.symm CM) MS]; exact fM j
  · rw [hb.cell (p := ⟨L.D, L.id, none⟩) lD4, World.cell?_setCell_same']
    · congr 2
    · show (((W4.setCell _ _).setCell _ _).cell? _).isSome = true
      rw [World.cell?_setCell_other _ _ _ _ (by intro e; simp at e <;> omega), World.cell?_setCell_other _ _ _ _ (by intro e; simp at e <;> omega), old L.D L.id lD (Ne.symm CD) DS, d]; rfl
  · intro j; rw [froz _ _ lD4, oldf _ _ lD (Ne.symm CD) DS]; exact fD j
  · rw [cell L.S _ lS4 (.inl (Ne.symm MS)) (.inl SH) (.inl (Ne.symm DS))]; exact hS0
  · rw [cell L.S _ lS4 (.inl (Ne.symm MS)) (.inl SH) (.inl (Ne.symm DS))]; exact hS1
  · intro j; rw [froz _ _ lS4]; exact hSf j
  · intro j hj
    by_cases e : j = L.id / 64
    · subst e
      rw [hb.cell (p := ⟨L.H, L.id / 64, none⟩) lH4]
      rw [World.cell?_setCell_other _ _ _ _ (by intro e; simp at e <;> omega)]
      show ((W4.setCell _ _).setCell _ _).cell? _ = _
      rw [World.cell?_setCell_same']
      · have : decide (r < k + 1) = true := by simp; omega
        rw [this, word_true]
      · rw [World.cell?_setCell_other _ _ _ _ (by intro e; simp at e <;> omega), old L.H _ lH (Ne.symm CH) (Ne.symm SH), hH _ hj]; rfl
    · rw [cell L.H j lH4 (.inl (Ne.symm MH)) (.inr e) (.inl (Ne.symm DH)), old L.H _ lH (Ne.symm CH) (Ne.symm SH), hH j hj, word_other e]
  · intro j; rw [froz _ _ lH4, oldf _ _ lH (Ne.symm CH) (Ne.symm SH)]; exact fH j
  · intro C' e
    obtain rfl : C' = C := (Option.some.inj e).symm
    refine ⟨bC, CM, CD, CS, CH, hm.of_block ?_⟩
    rw [hb.block C' lC, Below.heap_setCell _ _ _ _ CD]
    show ((W4.setCell _ _).setCell _ _).heap[C']? = _
    rw [Below.heap_setCell _ _ _ _ CH, Below.heap_setCell _ _ _ _ CM]
  · refine ⟨hb.os.trans o1, hb.tape.trans o2, hb.output.trans o3, by omega, fun b hlt => ?_⟩
    rw [hb.block b (by omega), Below.heap_setCell _ _ _ _ (show b ≠ L.D by omega)]
    show ((W4.setCell _ _).setCell _ _).heap[b]? = _
    rw [Below.heap_setCell _ _ _ _ (show b ≠ L.H by omega), Below.heap_setCell _ _ _ _ (show b ≠ L.M by omega)]
    exact hblk b (by omega) (by omega) (by omega)

end Go.Proofs.Qxb6614570aFmt
