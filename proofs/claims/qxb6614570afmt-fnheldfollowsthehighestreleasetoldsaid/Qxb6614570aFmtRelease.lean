import Derived.Test.Qxb6614570aFmtIter
import Derived.Sort.CutIn
import Derived.Test.Qxb6614570aFmtRound
namespace Go.Proofs.Qxb6614570aFmt
open Go.RowKit Go.Shelf
set_option linter.unusedVariables false
attribute [local go_sem] Oper.semAt_some

/-- what Release reads off 'stable': s, or 0 where it is too short -/
inductive StableAt (B : Nat) (W : World) (id s : Nat) : Value → Prop where
  | short (a : Option Addr) (len cap : Nat) (h1 : len ≤ id) (h2 : s = 0) : StableAt B W id s (.slice a len cap)
  | long (b len cap : Nat) (h1 : id < len) (h2 : b < B) (h3 : W.cell? ⟨b, id, none⟩ = some (.int .u32 (s : Int))) (h4 : s ≤ 4294967295) : StableAt B W id s (.slice (some ⟨b, 0, none⟩) len cap)

theorem StableAt.below {B : Nat} {W W' : World} {id s : Nat} {v : Value} (h : StableAt B W id s v) (hb : Below B W W') : StableAt B W' id s v := by
  cases h with
  | short a len cap h1 h2 => exact .short a len cap h1 h2
  | long b len cap h1 h2 h3 h4 => exact .long b len cap h1 h2 ((hb.cell (p := ⟨b, id, none⟩) h2).trans h3) h4

/-- how far it is released behind a Release at s -/
def upTo (k r s : Nat) : Nat := max r (min s k)

theorem wordAt_word (id : Nat) (d : Bool) (i : Nat) : wordAt (id / 64) (2 ^ (id % 64)) d i = word id d i := rfl

set_option maxHeartbeats 400000 in
theorem members_in (a : Option Addr) (len cap : Nat) (w : World) (n : Nat) :
    CallsIn Fence.wide n Tryf.prog 17 #[.slice a len cap] w fun e w' => e = .returned (.func (.func 23) #[] #[.pointer (some ⟨w.heap.size, 0, none⟩)]) ∧ w' = w.alloc (.cells #[.slice a len cap] 46) := by
  refine callsIn_of_wp Tryf.func17 rfl trivial ?_ rfl
  simp only [Tryf.ntmps17, List.size_toArray, List.length_cons, List.length_nil, Nat.reduceAdd, Nat.reduceSub, Array.replicate_succ, Array.replicate_zero, List.push_toArray, List.append_toArray, List.nil_append, List.cons_append]
  gi_wp2
  go_ret
  exact ⟨rfl, rfl⟩

theorem iter_stops (L : Lay) (ok : L.Ok) (X : Nat) (d : Bool) (w : World) (hX0 : X < w.heap.size) (hX : w.cell? ⟨X, 0, none⟩ = some (.slice (some ⟨L.H, 0, none⟩) L.nh L.ch)) (lH : L.H < w.heap.size) (l0 : 0 < w.heap.size) (hT : Table w)
    (hw : ∀ j, j < L.nh → w.cell? ⟨L.H, j, none⟩ = some (.int .u64 (word L.id d j))) :
    SeqStopsK Fence.wide 2 Tryf.prog 23 #[.pointer (some ⟨X, 0, none⟩)] (fun _ : Unit => #[Value.int .i64 (L.id : Int)]) (KeepIt X L.H (L.id / 64)) (fun ys => ys = (if d then [()] else [])) (fun _ => True) 1 w := fun l J Jx W hW _ _ hY h0 => by
  have hid : ((L.id / 64 : Nat) : Int) * 64 + ((L.id % 64 : Nat) : Int) = (L.id : Int) := by omega
  have hq : L.id / 64 < L.nh := by have := ok.idn; have := ok.words; omega
  have hnh : L.nh ≤ 1024 := by have := ok.small; have := ok.words; omega
  refine iter_in l X L.H L.nh L.ch (L.id / 64) (L.id % 64) d (Nat.mod_lt _ (by omega)) hq hnh J Jx (fun pre x W1 h1 h2 => by rw [hid]; exact hY pre x W1 h1 h2) W ((hW.cell (p := ⟨X, 0, none⟩) hX0).trans hX) (hT.of_block (hW.block 0 l0)) ?_ h0
  intro m _ hm
  rw [wordAt_word]
  exact (hW.cell (p := ⟨L.H, m, none⟩) lH).trans (hw m hm)

/-- a state stays a state where nothing below N turns -/
theorem MC.laterAt {L : Lay} {w w' : World} {cm : Option Nat} {k r rel : Nat} (N : Nat) (h : MC L w cm k r rel) (hb : Below N w w') (nM : L.M < N) (nD : L.D < N) (nS : L.S < N) (nH : L.H < N) (nC : ∀ C, cm = some C → C < N) : MC L w' cm k r rel := by
  obtain ⟨lM, lD, lS, lH, c0, c1, c2, c4, c5, c6, c7, c8, c9, fM, d, fD, s0, s1, fS, hH, fH, rk, kk, map0, mapC⟩ := h
  have z := hb.size
  have c : ∀ b o, b < N → w'.cell? ⟨b, o, none⟩ = w.cell? ⟨b, o, none⟩ := fun b o hl => hb.cell (p := ⟨b, o, none⟩) hl
  have f : ∀ b o, b < N → w'.frozen? ⟨b, o, none⟩ = w.frozen? ⟨b, o, none⟩ := fun b o hl => hb.frozen (p := ⟨b, o, none⟩) hl
  exact ⟨by omega, by omega, by omega, by omega, (c _ _ nM).trans c0, (c _ _ nM).trans c1, (c _ _ nM).trans c2, (c _ _ nM).trans c4, (c _ _ nM).trans c5, (c _ _ nM).trans c6, (c _ _ nM).trans c7, (c _ _ nM).trans c8, (c _ _ nM).trans c9,
    fun j => (f _ _ nM).trans (fM j), (c _ _ nD).trans d, fun j => (f _ _ nD).trans (fD j), (c _ _ nS).trans s0, (c _ _ nS).trans s1, fun j => (f _ _ nS).trans (fS j), fun j hj => (c _ _ nH).trans (hH j hj), fun j => (f _ _ nH).trans (fH j), rk, kk, map0,
    fun C e => by
      obtain ⟨a1, a2, a3, a4, a5, a6⟩ := mapC C e
      exact ⟨a1, a2, a3, a4, a5, a6.of_block (hb.block C (nC C e))⟩⟩

/-- the three boxes of Release -/
abbrev boxed3 (L : Lay) (w : World) (sv : Value) : World :=
  ((w.alloc (.cells #[.pointer (some ⟨L.M, 0, none⟩)] 24)).alloc (.cells #[sv] 34)).alloc (.cells #[.slice (some ⟨L.H, 0, none⟩) L.nh L.ch] 46)

/-- between two rounds of Release -/
structure Mid (L : Lay) (w : World) (sv : Value) (cm : Option Nat) (k r : Nat) (W : World) : Prop where
  mc : MC L W cm k r r
  b0 : W.heap[w.heap.size]? = some (.cells #[.pointer (some ⟨L.M, 0, none⟩)] 24 (0, 0))
  b1 : W.heap[w.heap.size + 1]? = some (.cells #[sv] 34 (0, 0))
  bel : Below L.B w W

theorem Mid.own {L : Lay} {w : World} {sv : Value} {cm : Option Nat} {k r : Nat} {A B : World} {row : Option Nat} (h : Mid L w sv cm k r A) (N : Nat) (hN : w.heap.size + 1 < N) (hAN : N ≤ A.heap.size) (hBB : L.B ≤ w.heap.size)
    (nM : L.M < w.heap.size) (nD : L.D < w.heap.size) (nS : L.S < w.heap.size) (nH : L.H < w.heap.size) (nC : ∀ C, cm = some C → C < w.heap.size)
    (hg : A.grownBy B row) (hr : ∀ x, row = some x → N ≤ x) : Mid L w sv cm k r B := by
  have hb : Below N A B := (Below.refl N A).grown hg hAN (fun k e => hr k e)
  exact ⟨h.mc.laterAt N hb (by omega) (by omega) (by omega) (by omega) (fun C e => by have := nC C e; omega), (hb.block _ (by omega)).trans h.b0, (hb.block _ (by omega)).trans h.b1, h.bel.trans (hb.mono (by omega))⟩

/-- the frame in which the body of Release begins -/
abbrev relAct (L : Lay) (w : World) (sv : Value) : Act :=
  { tmps := #[.pointer (some ⟨L.M, 0, none⟩), sv, .pointer (some ⟨w.heap.size, 0, none⟩), .pointer (some ⟨w.heap.size + 1, 0, none⟩), .int .i64 (L.id : Int), undef, undef, undef, .pointer (some ⟨L.M, 0, none⟩), .pointer (some ⟨L.M, 0, none⟩), .pointer (some ⟨L.M, 9, none⟩), .slice (some ⟨L.H, 0, none⟩) L.nh L.ch, .func (.func 23) #[] #[.pointer (some ⟨w.heap.size + 1 + 1, 0, none⟩)], .int .i64 (L.id : Int), undef, undef, undef, undef, undef, undef, undef, undef, undef, undef, undef, undef, undef, undef, undef, undef, undef, undef, undef, undef, undef, undef, undef, undef, undef, undef, undef, undef, undef, undef, undef, undef, undef, undef, undef, undef, undef, undef, undef, undef, undef, undef, undef, undef, undef, undef, undef, undef, undef, undef, undef, undef, undef, undef, undef, undef, undef, undef, undef, undef, undef, undef, undef, undef, undef, undef, undef, undef, undef, undef, undef, undef, undef, undef, undef, undef], defers := [] }

set_option maxHeartbeats 400000 in
/-- nobody is excluded -/
theorem excl_in (n : Nat) (v : Value) (w : World) (nq : Nat) : CallsIn Fence.wide n Tryf.prog 13 #[v] (w.drewN nq) fun e w' => e = .returned (.bool false) ∧ ∃ m, w' = w.drewN m := by
  refine callsIn_of_wp Tryf.func13 rfl trivial ?_ rfl
  simp only [Tryf.ntmps13, List.size_toArray, List.length_cons, List.length_nil, Nat.reduceAdd, Nat.reduceSub, Array.replicate_succ, Array.replicate_zero, List.push_toArray, List.append_toArray, List.nil_append, List.cons_append]
  gi_wp2
  go_ret
  exact ⟨rfl, nq, rfl⟩

theorem below_drewN (N : Nat) (w : World) (n : Nat) : Below N w (w.drewN n) := ⟨rfl, rfl, rfl, Nat.le_refl _, fun _ _ => rfl⟩
theorem touch_drewN (L : Lay) (cm : Option Nat) (w : World) (n : Nat) : Touch L cm w (w.drewN n) := ⟨rfl, rfl, rfl, rfl, fun _ _ _ _ _ => rfl, fun _ _ => rfl⟩

/-- 'released = x' -/
theorem MC.bump {L : Lay} {w : World} {cm : Option Nat} {k r rel : Nat} (h : MC L w cm k r rel) (ok : L.Ok) (x : Nat) : MC L (w.setCell ⟨L.S, L.id * 4, none⟩ (.int .u32 (x : Int))) cm k r x := by
  obtain ⟨lM, lD, lS, lH, c0, c1, c2, c4, c5, c6, c7, c8, c9, fM, d, fD, s0, s1, fS, hH, fH, rk, kk, map0, mapC⟩ := h
  obtain ⟨bM, bD, bS, bH, MD, MS, MH, DS, DH, SH, idn, small, words, capD, capS, capH⟩ := ok
  have z : (w.setCell ⟨L.S, L.id * 4, none⟩ (.int .u32 (x : Int))).heap.size = w.heap.size := by simp [World.setCell]
  have c : ∀ b o, (b ≠ L.S ∨ o ≠ L.id * 4) → (w.setCell ⟨L.S, L.id * 4, none⟩ (.int .u32 (x : Int))).cell? ⟨b, o, none⟩ = w.cell? ⟨b, o, none⟩ := fun b o hl => World.cell?_setCell_other _ _ _ _ (by intro e; simp at e <;> omega)
  have f : ∀ b o, (w.setCell ⟨L.S, L.id * 4, none⟩ (.int .u32 (x : Int))).frozen? ⟨b, o, none⟩ = w.frozen? ⟨b, o, none⟩ := fun b o => by rw [World.frozen?_setCell]
  exact ⟨by omega, by omega, by omega, by omega, (c _ _ (.inl MS)).trans c0, (c _ _ (.inl MS)).trans c1, (c _ _ (.inl MS)).trans c2, (c _ _ (.inl MS)).trans c4, (c _ _ (.inl MS)).trans c5, (c _ _ (.inl MS)).trans c6, (c _ _ (.inl MS)).trans c7, (c _ _ (.inl MS)).trans c8, (c _ _ (.inl MS)).trans c9,
    fun j => (f _ _).trans (fM j), (c _ _ (.inl DS)).trans d, fun j => (f _ _).trans (fD j), World.cell?_setCell_same' _ _ _ (by rw [s0]; rfl), (c _ _ (.inr (by omega))).trans s1, fun j => (f _ _).trans (fS j), fun j hj => (c _ _ (.inl (Ne.symm SH))).trans (hH j hj), fun j => (f _ _).trans (fH j), rk, kk, map0,
    fun C e => by
      obtain ⟨a1, a2, a3, a4, a5, a6⟩ := mapC C e
      exact ⟨a1, a2, a3, a4, a5, a6.of_block (Below.heap_setCell _ _ _ _ a4)⟩⟩

theorem Touch.bump {L : Lay} {w w' : World} {cm : Option Nat} (h : Touch L cm w w') (ok : L.Ok) (o : Nat) (v : Value) : Touch L cm w (w'.setCell ⟨L.S, o, none⟩ v) :=
  ⟨h.os, h.tape, h.output, by simp [World.setCell, h.size], fun b h1 h2 h3 h4 => (Below.heap_setCell _ _ _ _ h2).trans (h.block b h1 h2 h3 h4), fun j hj => (World.cell?_setCell_other _ _ _ _ (by intro e; simp at e; exact ok.SH e.1)).trans (h.words j hj)⟩

/-- how far the world says it is released -/
def relOf (L : Lay) (W : World) : Nat := match W.cell? ⟨L.S, L.id * 4, none⟩ with | some v => (intOf v).toNat | none => 0
theorem relOf_eq {L : Lay} {w : World} {cm : Option Nat} {k r rel : Nat} (h : MC L w cm k r rel) : relOf L w = rel := by
  unfold relOf; rw [h.s0]; simp [intOf]

/-- what a round leaves, out of 'Touch' -/
theorem Touch.keeps {L : Lay} {w W W' : World} {cm : Option Nat} (h : Touch L cm W W') (ok : L.Ok) (hB : 0 < L.B) (hBB : L.B ≤ w.heap.size) (lM : L.M < w.heap.size) (lS : L.S < w.heap.size) (lH : L.H < w.heap.size) (nC : ∀ C, cm = some C → L.B ≤ C ∧ C < w.heap.size) (N X : Nat) (hN : w.heap.size ≤ N) (hX : w.heap.size ≤ X) :
    KeepsFrom N W W' ∧ KeepIt X L.H (L.id / 64) W W' ∧ Below L.B W W' := by
  have b := ok.bM
  have b2 := ok.bS
  have b3 := ok.bH
  have blk : ∀ x, w.heap.size ≤ x → W'.heap[x]? = W.heap[x]? := fun x hx => h.block x (by omega) (by omega) (by omega) (fun e => by have := (nC x e).2; omega)
  have low : ∀ x, x < L.B → W'.heap[x]? = W.heap[x]? := fun x hx => h.block x (by omega) (by omega) (by omega) (fun e => by have := (nC x e).1; omega)
  exact ⟨⟨by rw [h.size]; exact Nat.le_refl _, fun x o hx ho _ => (blk x (by omega)).trans ho⟩, ⟨blk X hX, low 0 hB, h.words⟩, ⟨h.os, h.tape, h.output, by rw [h.size]; exact Nat.le_refl _, low⟩⟩

set_option maxHeartbeats 4000000 in
set_option maxRecDepth 100000 in
theorem release_any (L : Lay) (ok : L.Ok) (hB : 0 < L.B) (w : World) (cm : Option Nat) (k r s : Nat) (a : Option Addr) (len cap : Nat) (h : MC L w cm k r r) (hT : Table w) (hs : StableAt L.B w L.id s (.slice a len cap)) :
    Calls Tryf.prog 10 #[.pointer (some ⟨L.M, 0, none⟩), .slice a len cap] w fun e w' => (e = .returned (.tuple #[]) ∧ MC L w' cm k (upTo k r s) (upTo k r s)) ∧ Below L.B w w' := by
  obtain ⟨lM, lD, lS, lH, c0, c1, c2, c4, c5, c6, c7, c8, c9, fM, d, fD, s0, s1, fS, hH, fH, rk, kk, map0, mapC⟩ := id h
  have hBB : L.B ≤ w.heap.size := by have := ok.bM; omega
  have nC : ∀ C, cm = some C → C < w.heap.size := fun C e => by subst e; exact h.lC
  have hb3 : Below w.heap.size w (boxed3 L w (.slice a len cap)) := (((Below.refl _ w).alloc (Nat.le_refl _) _).alloc (by simp) _).alloc (by simp; omega) _
  have h3 := h.later hb3
  have hT3 : Table (boxed3 L w (.slice a len cap)) := hT.of_block (hb3.block 0 (by omega))
  have bx0 : (boxed3 L w (.slice a len cap)).heap[w.heap.size]? = some (.cells #[.pointer (some ⟨L.M, 0, none⟩)] 24 (0, 0)) := ((Boxed.new w 24 _).alloc _).alloc _
  have bx1 : (boxed3 L w (.slice a len cap)).heap[w.heap.size + 1]? = some (.cells #[.slice a len cap] 34 (0, 0)) := by
    have := (Boxed.new (w.alloc (.cells #[.pointer (some ⟨L.M, 0, none⟩)] 24)) 34 (.slice a len cap)).alloc (.cells #[.slice (some ⟨L.H, 0, none⟩) L.nh L.ch] 46)
    rw [World.size_alloc] at this; exact this
  have bx2 : (boxed3 L w (.slice a len cap)).cell? ⟨w.heap.size + 1 + 1, 0, none⟩ = some (.slice (some ⟨L.H, 0, none⟩) L.nh L.ch) := by
    have := (Boxed.new ((w.alloc (.cells #[.pointer (some ⟨L.M, 0, none⟩)] 24)).alloc (.cells #[.slice a len cap] 34)) 46 (.slice (some ⟨L.H, 0, none⟩) L.nh L.ch)).cell
    rw [World.size_alloc, World.size_alloc] at this; exact this
  have hsz3 : (boxed3 L w (.slice a len cap)).heap.size = w.heap.size + 1 + 1 + 1 := by simp only [World.size_alloc]
  have hsz3' := hsz3
  simp only [boxed3] at hsz3'
  clear map0 mapC hH fH fM fD fS s0 s1 c4 c5 c8 d c0 c1 c2 c6 c7
  refine (callsIn_wide (n := 3)).1 ?_
  refine callsIn_of_wp_marks Tryf.func10 rfl trivial ?_ rfl
  simp only [Tryf.ntmps10, List.size_toArray, List.length_cons, List.length_nil, Nat.reduceAdd, Nat.reduceSub, Array.replicate_succ, Array.replicate_zero, List.push_toArray, List.append_toArray, List.nil_append, List.cons_append]
  gi_wp2_with (refine ⟨trivial, ?_⟩; gi_at_call 17; refine (members_in _ _ _ _ _).mono ?_; rintro e w' ⟨rfl, rfl⟩)
  refine wpIn_rangeFunc_ownG rfl (by omega) (gf := 23) (lb := #[.pointer (some ⟨w.heap.size + 1 + 1, 0, none⟩)]) rfl trivial (enters_of Tryf.func23 (by kernel_rfl) rfl)
    (iter_stops L ok (w.heap.size + 1 + 1) (decide (r < k)) (boxed3 L w (.slice a len cap)) (by omega) bx2 h3.lH (by omega) hT3 h3.h) (fun h k => h.trans k) ?kb (Below.refl _ _) (fun _ => rfl)
    (fun pre W => Mid L w (.slice a len cap) cm k (if pre = [] then r else upTo k r s) W ∧ w.heap.size + 1 + 1 + 1 ≤ W.heap.size)
    (fun _ _ _ => False)
    ?own (fun _ _ _ _ _ hs _ _ => hs) ⟨⟨h3, bx0, bx1, hb3.mono hBB⟩, by omega⟩ (fun _ => relAct L w (.slice a len cap)) ?assign ?body ?done ?stop
  case kb =>
    intro W l o o' hl _ _ _
    rw [hsz3'] at hl
    refine ⟨World.putObj_heap_other (by omega), World.putObj_heap_other (by omega), fun j _ => World.cell?_of_block (World.putObj_heap_other (show L.H ≠ l by omega))⟩
  case own =>
    rintro pre A B row ⟨h1, h2⟩ hg hr
    exact ⟨h1.own _ (by omega) h2 hBB lM lD lS lH nC hg (fun x e => by have := (hr x e).1; rw [hsz3'] at this; exact this), by have := hg.size; omega⟩
  case assign =>
    intro l x W K hK
    gi_wp2
    exact hK
  case body =>
    rintro l pre x W ⟨hm, hz⟩ hlt
    obtain rfl : pre = [] := by cases pre with | nil => rfl | cons _ _ => simp at hlt
    rw [if_pos rfl] at hm
    obtain ⟨hmc, q0, q1, hbel⟩ := hm
    have hsW := hs.below hbel
    obtain ⟨lM, lD, lS, lH, c0, c1, c2, c4, c5, c6, c7, c8, c9, fM, d, fD, s0, s1, fS, hH, fH, rk, kk, map0, mapC⟩ := id hmc
    obtain ⟨bM, bD, bS, bH, MD, MS, MH, DS, DH, SH, idn, small, words, capD, capS, capH⟩ := id ok
    have x0 := Boxed.cell q0
    have x1 := Boxed.cell q1
    have hid : (L.id : Int) < (L.n : Int) := by omega
    clear words map0 mapC hH fH hT3 h3 bx0 bx1 bx2 hsz3 hsz3' hb3 h hT hs c9 hlt
    obtain ⟨lim, hlim⟩ : ∃ lim, Hid (lim = min s k) := ⟨_, (rfl : min s k = min s k)⟩
    have hmix : Tryf.prog.follows .mixedOrders = true := by kernel_rfl
    gi_upto_if 23 with fail
    gi_cut [6] from 14 (fun v wx => v = .int .u32 (lim : Int) ∧ ∃ nq, wx = W.drewN nq)
    case first =>
      cases hsW with
      | short a len cap h1 h2 =>
        have hlt' : decide ((L.id : Int) < (len : Int)) = false := by simp; omega
        gi_wp2
        gi_meet
        case rel => exact ⟨by subst h2; simp [hlim.out], 0, rfl⟩
      | long b len cap h1 h2 h3 h4 =>
        have hlt' : decide ((L.id : Int) < (len : Int)) = true := by simp; omega
        have hll : (L.id : Int) < (len : Int) := by omega
        rcases Nat.lt_or_ge k s with hks | hks
        all_goals
          gi_wp2
          refine region_quiet_round (by kernel_rfl) (by kernel_rfl) (by kernel_rfl) ?_
          repeat (gi_big_quiet_step (fail))
          refine wpQuietIn_nil ?_
          rintro _ ⟨nq, rfl⟩
          gi_wp2
          gi_meet
          case rel =>
            refine ⟨?_, nq, rfl⟩
            have := hlim.out
            congr 1; omega
    case rest =>
      obtain ⟨rfl, nq, rfl⟩ := hcut
      have nCB : ∀ C, cm = some C → L.B ≤ C ∧ C < w.heap.size := fun C e => ⟨(hmc.mapC C e).1, nC C e⟩
      have hm1 := hmc.later (below_drewN _ W nq)
      have ht1 := touch_drewN L cm W nq
      clear x0 x1 lM lD lS lH c0 c1 c2 c4 c5 c6 c7 c8 fM d fD s0 s1 fS hsW
      gi_wp2
      gi_loopw [] (fun wr => ∃ i, r ≤ i ∧ i ≤ upTo k r s ∧ MC L wr cm k i i ∧ Touch L cm W wr) (fun wr => k + 1 - relOf L wr)
      case atStart => exact ⟨r, Nat.le_refl _, by unfold upTo; omega, hm1, ht1⟩
      case round =>
        obtain ⟨i, hi1, hi2, hmi, hti⟩ := hrel
        have hup : Hid (upTo k r s = max r lim) := by unfold upTo; rw [hlim.out]; exact (rfl : max r (min s k) = max r (min s k))
        rw [hup.out] at hi2
        have x0 : wr.cell? ⟨w.heap.size, 0, none⟩ = some (.pointer (some ⟨L.M, 0, none⟩)) := by
          refine Boxed.cell (B := w.heap.size) (t := 24) ((hti.block _ (by omega) (by omega) (by omega) (fun e => ?_)).trans q0)
          have := nC _ e; omega
        by_cases hlt : i < lim
        · have hik : i < k := by have := hlim.out; omega
          obtain ⟨C, rfl⟩ : ∃ C, cm = some C := by
            cases cm with
            | none => have := hmi.map0 rfl; omega
            | some C => exact ⟨C, rfl⟩
          have hmi' : MC L wr.drew (some C) k i i := hmi.later ((Below.refl _ wr).drew)
          have DR := drop_any L ok wr.drew C k i i hmi' hik
          have hd : decide ((i : Int) < (lim : Int)) = true := by simp; omega
          have hi32 : i ≤ 131072 := by omega
          have HW : Hid (IntKind.u32.wrap ((i : Int) + 1) = (i : Int) + 1) := by unfold Hid; rw [IntKind.wrap_u32']; omega
          obtain ⟨s0, fS⟩ : wr.cell? ⟨L.S, L.id * 4, none⟩ = some (.int .u32 (i : Int)) ∧ (∀ j, wr.frozen? ⟨L.S, j, none⟩ = false) := ⟨hmi.s0, hmi.fS⟩
          have hmi0 := relOf_eq hmi
          gi_wp2
          gi_region_with_o (refine ⟨trivial, ?_⟩; gi_at_call 18; try rw [HW.out]; refine (CallsIn.inRound l (callsIn_wide.2 DR)).mono ?_; rintro e w' ⟨rfl, hm2, ht2⟩; obtain ⟨z0, zS⟩ : w'.cell? ⟨L.S, L.id * 4, none⟩ = some (.int .u32 (i : Int)) ∧ (∀ j, w'.frozen? ⟨L.S, j, none⟩ = false) := ⟨hm2.s0, hm2.fS⟩)
          all_goals
            have zr := relOf_eq (hm2.bump ok (i + 1))
            have FIN : MC L (w'.setCell ⟨L.S, L.id * 4, none⟩ (.int .u32 ((i : Int) + 1))) (some C) k (i + 1) (i + 1) ∧ Touch L (some C) W (w'.setCell ⟨L.S, L.id * 4, none⟩ (.int .u32 ((i : Int) + 1))) := ⟨hm2.bump ok (i + 1), ((hti.drew).trans ht2).bump ok _ _⟩
            clear hm2 ht2 DR hmi hmi' hti
            gi_wp2
            go_roundw
            case rel => exact ⟨i + 1, by omega, by rw [hup.out]; omega, FIN.1, FIN.2⟩
            case measure => rw [relOf_eq FIN.1, hmi0]; omega
        · have hd : decide ((i : Int) < (lim : Int)) = false := by simp; omega
          have hie : i = upTo k r s := by rw [hup.out]; omega
          obtain ⟨s0, c4, c7, dd⟩ : wr.cell? ⟨L.S, L.id * 4, none⟩ = some (.int .u32 (i : Int)) ∧ wr.cell? ⟨L.M, 4, none⟩ = some (.func (.func 13) #[] #[]) ∧ wr.cell? ⟨L.M, 7, none⟩ = some (.slice (some ⟨L.D, 0, none⟩) L.n L.cd) ∧ wr.cell? ⟨L.D, L.id, none⟩ = some (.int .u32 (k : Int)) := ⟨hmi.s0, hmi.c4, hmi.c7, hmi.d⟩
          have FIN : ∀ nq, KeepsFrom (w.heap.size + 1 + 1 + 1) W (wr.drewN nq) ∧ KeepIt (w.heap.size + 1 + 1) L.H (L.id / 64) W (wr.drewN nq) ∧ Mid L w (.slice a len cap) cm k (upTo k r s) (wr.drewN nq) ∧ w.heap.size + 1 + 1 + 1 ≤ (wr.drewN nq).heap.size := fun nq => by
            have ht := hti.trans (touch_drewN L cm wr nq)
            obtain ⟨k1, k2, k3⟩ := ht.keeps ok hB hBB lM lS lH nCB (w.heap.size + 1 + 1 + 1) (w.heap.size + 1 + 1) (by omega) (by omega)
            refine ⟨k1, k2, ⟨by rw [← hie]; exact hmi.later (below_drewN _ wr nq), ?_, ?_, hbel.trans k3⟩, by rw [ht.size]; exact hz⟩
            · exact (ht.block _ (by omega) (by omega) (by omega) (fun e => by have := nC _ e; omega)).trans q0
            · exact (ht.block _ (by omega) (by omega) (by omega) (fun e => by have := nC _ e; omega)).trans q1
          clear hie hup
          by_cases hik : i = k
          · have hii : (i : Int) = (k : Int) := by omega
            rw [hii] at s0
            have hdk : decide ((k : Int) < (lim : Int)) = false := by simp; omega
            have hdk2 : decide (k < lim) = false := by simp; omega
            have hdk3 : lim ≤ k := by omega
            clear hii hik
            have EX : ∀ nq, CallsIn Fence.wide (3 - 1 - 1 - 1) Tryf.prog 13 #[.int .i64 (L.id : Int)] (wr.drewN nq) fun e w' => e = .returned (.bool false) ∧ ∃ m, w' = wr.drewN m := fun nq => excl_in _ _ _ _
            gi_wp2
            refine region_quiet_round (by kernel_rfl) (by kernel_rfl) (by kernel_rfl) ?_
            repeat (gi_big_quiet_step (fail))
            refine BigFrame.wpQuietIn_want (fun _ _ _ _ => trivial) rfl ?_
            intro K hK
            gi_big_quiet_op
            first | go_big_quiet_on | gi_big_quiet_call (exact EX _)
            repeat (gi_big_quiet_step (fail))
            refine wpQuietIn_nil ?_
            rintro _ ⟨nq, rfl⟩
            have F := FIN nq
            gi_wp2
            refine ⟨by simp only [World.size_alloc]; exact F.1, F.2.1, ?_, F.2.2.2⟩
            rw [if_neg (by simp)]
            exact F.2.2.1
          · have hq : decide (i = k) = false := by simp; omega
            have hq2 : ((i : Int) == (k : Int)) = false := by simp; omega
            have hq3 : decide ((i : Int) = (k : Int)) = false := by simp; omega
            gi_wp2
            refine region_quiet_round (by kernel_rfl) (by kernel_rfl) (by kernel_rfl) ?_
            repeat (gi_big_quiet_step (fail))
            refine BigFrame.wpQuietIn_skip (fun _ _ _ _ => trivial) rfl ?_
            simp only [Act.put, List.setIfInBounds_toArray, List.set_cons_succ, List.set_cons_zero]
            repeat (gi_big_quiet_step (fail))
            refine wpQuietIn_nil ?_
            rintro _ ⟨nq, rfl⟩
            have F := FIN nq
            gi_wp2
            refine ⟨by simp only [World.size_alloc]; exact F.1, F.2.1, ?_, F.2.2.2⟩
            rw [if_neg (by simp)]
            exact F.2.2.1
  case done =>
    rintro D ys W hD rfl ⟨hm, hz⟩ hK
    rw [hsz3'] at hD
    have hr' : (if (if decide (r < k) = true then [()] else []) = [] then r else upTo k r s) = upTo k r s := by
      by_cases e : r < k
      · simp [e]
      · simp [e, upTo]; omega
    rw [hr'] at hm
    have hm' := hm.own _ (by omega) hz hBB lM lD lS lH nC (grownBy_putObj' W D (.deferred none)) (fun x e => by cases e; exact hD)
    gi_wp2
    refine ⟨by simp, .inl ⟨_, _, rfl, run_takeDeferred hK, ?_⟩⟩
    exact ⟨_, results_none rfl _ _ _, ⟨rfl, hm'.mc⟩, hm'.bel⟩
  case stop =>
    rintro D c pre W _ _ h _
    exact h.elim
end Go.Proofs.Qxb6614570aFmt
