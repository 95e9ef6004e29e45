import Derived.RangeFuncNested
import Derived.RangeFuncBound
import Derived.RangeFuncCalls
import Derived.RangeFuncLeaves
import Derived.Shelf.Abstract
import Derived.Shelf.RegionOpen
import Derived.WalkKit
import Derived.OwnWalkIn
import Derived.TacticsInMore
import Derived.LoopNIn
import Derived.LoopIn
import Derived.Test.Qxb6614570aFmtTz
import Derived.Test.Qxb6614570aFmtDrop
namespace Go.Proofs.Qxb6614570aFmt
open Go.RowKit Go.Shelf
set_option linter.unusedVariables false
attribute [local go_sem] Oper.semAt_some

/-- what a round must leave: the captured slice's box, the table, the other words -/
structure KeepIt (X H q : Nat) (W W' : World) : Prop where
  box : W'.heap[X]? = W.heap[X]?
  tab : W'.heap[0]? = W.heap[0]?
  words : ∀ j, j ≠ q → W'.cell? ⟨H, j, none⟩ = W.cell? ⟨H, j, none⟩

theorem KeepIt.trans {X H q : Nat} {A B C : World} (h : KeepIt X H q A B) (k : KeepIt X H q B C) : KeepIt X H q A C :=
  ⟨k.box.trans h.box, k.tab.trans h.tab, fun j hj => (k.words j hj).trans (h.words j hj)⟩

/-- the words of the set {64 q + j}, or of the empty one -/
def wordAt (q : Nat) (x : Int) (d : Bool) (i : Nat) : Int := if i = q ∧ d = true then x else 0

/-- the words from the i-th on -/
def WordsFrom (H nh q : Nat) (x : Int) (d : Bool) (i : Nat) (W : World) : Prop := ∀ m, i ≤ m → m < nh → W.cell? ⟨H, m, none⟩ = some (.int .u64 (wordAt q x d m))

/-- how the iterator ends -/
def IterPost (d : Bool) (J Jx : List Unit → World → Prop) (e : Ending) (W' : World) : Prop :=
  (∃ v, e = .returned v) ∧ ((∃ ys : List Unit, ys = (if d then [()] else []) ∧ J ys W') ∨ (∃ pre, True ∧ Jx pre W'))

theorem and_pred {j : Nat} (h : j < 64) : bits .and .u64 (2 ^ j) (IntKind.u64.wrap (2 ^ j - 1)) = 0 := by
  have hp := pow_lt h
  have h1 : 0 < 2 ^ j := Nat.pow_pos (by omega)
  have e : (2 : Int) ^ j - 1 = ((2 ^ j - 1 : Nat) : Int) := by rw [cast_pow]; omega
  have e2 : IntKind.u64.wrap ((2 ^ j - 1 : Nat) : Int) = ((2 ^ j - 1 : Nat) : Int) := by
    rw [IntKind.wrap_u64]; generalize 2 ^ j = x at *; omega
  rw [e, e2, cast_pow, u64_and_nat _ _ hp (by omega)]
  have : (2 ^ j &&& (2 ^ j - 1) : Nat) = 0 := by
    apply Nat.eq_of_testBit_eq
    intro i
    rw [Nat.testBit_and, Nat.testBit_two_pow_sub_one, Nat.testBit_two_pow, Nat.zero_testBit]
    by_cases e : j = i <;> simp [e]
  rw [this]; rfl

set_option maxHeartbeats 2000000 in
set_option maxRecDepth 100000 in
theorem iter_in (l X H nh ch q j : Nat) (d : Bool) (hj : j < 64) (hq : q < nh) (hnh : nh ≤ 1024) (J Jx : List Unit → World → Prop)
    (hY : ∀ pre (x : Unit) W, J pre W → pre.length < 1 → YieldAt Fence.wide 1 Tryf.prog l #[.int .i64 ((q : Int) * 64 + j)] W fun e W' =>
      (e = .returned (.bool true) ∧ J (pre ++ [x]) W' ∧ KeepIt X H q W W') ∨ (e = .returned (.bool false) ∧ Jx (pre ++ [x]) W'))
    (W : World) (hX : W.cell? ⟨X, 0, none⟩ = some (.slice (some ⟨H, 0, none⟩) nh ch)) (hT : Table W)
    (hw : WordsFrom H nh q (2 ^ j) d 0 W) (h0 : J [] W) :
    CallsIn Fence.wide 2 Tryf.prog 23 #[.func (.yield l) #[] #[], .pointer (some ⟨X, 0, none⟩)] W fun e W' => IterPost d J Jx e W' := by
  have TZ := fun W hT => tz_any j W hj hT
  have hand := and_pred hj
  have hp : (0 : Int) < 2 ^ j := Int.pow_pos (by omega)
  generalize (2 : Int) ^ j = x at *
  have hx0 : (x != 0) = true := by simp; omega
  have hx1 : (x == 0) = false := by simp; omega
  refine callsIn_of_wp Tryf.func23 rfl trivial ?_ rfl
  simp only [Tryf.ntmps23, List.size_toArray, List.length_cons, List.length_nil, Nat.reduceAdd, Nat.reduceSub, Array.replicate_succ, Array.replicate_zero, List.push_toArray, List.append_toArray, List.nil_append, List.cons_append]
  gi_wp2
  gi_loopw [7] (fun v wr => ∃ i : Nat, i ≤ nh ∧ v = .int .i64 i ∧ WordsFrom H nh q x d i wr ∧ Table wr ∧ J (if d = true ∧ q < i then [()] else []) wr)
    (fun v _ => nh - (intOf v).toNat)
  case atStart => exact ⟨0, Nat.zero_le _, rfl, hw, hT, by simpa using h0⟩
  case round =>
    obtain ⟨i, hi, rfl, hwr, hTr, hJr⟩ := hrel
    by_cases hlt : i < nh
    · by_cases hd : d = true ∧ i = q
      · obtain ⟨rfl, rfl⟩ := hd
        have hcx := hwr i (Nat.le_refl _) hlt
        rw [show wordAt i x true i = x by simp [wordAt]] at hcx
        rw [if_neg (by omega)] at hJr
        gi_wp2
        gi_loopw [4] (fun v wi => (v = .int .u64 x ∧ wi = wr) ∨ (v = .int .u64 0 ∧ J [()] wi ∧ KeepIt X H i wr wi)) (fun v _ => (intOf v).toNat)
        case atStart => exact .inl ⟨rfl, rfl⟩
        case round =>
          rcases hrel with ⟨rfl, rfl⟩ | ⟨rfl, hJ3, hk3⟩
          · obtain ⟨fn, tmps, assign, body, hy, hR⟩ := hY [] () _ hJr (by simp)
            gi_wp2_with (refine ⟨trivial, ?_⟩; gi_at_call 24; refine (callsIn_wide.2 (TZ _ hTr)).mono ?_; rintro e w' ⟨rfl, rfl⟩)
            refine hR.mono ?_
            rintro e W3 (⟨rfl, hJ3, hk3⟩ | ⟨rfl, hJx3⟩)
            · gi_wp2
              go_roundw
              case rel => exact .inr ⟨rfl, hJ3, hk3⟩
              case measure => simp [intOf]; omega
            · gi_wp2
              refine bodyPost_ret (results_none rfl _ _ _) rfl ?_
              exact ⟨⟨_, rfl⟩, .inr ⟨_, trivial, hJx3⟩⟩
          · gi_wp2
            go_roundw
            case rel =>
              refine ⟨i + 1, by omega, by simp, fun m h1 h2 => (hk3.words m (by omega)).trans (hwr m (by omega) h2), hTr.of_block hk3.tab, ?_⟩
              rw [if_pos ⟨trivial, by omega⟩]; exact hJ3
            case measure => simp [intOf]; omega
      · have hcx := hwr i (Nat.le_refl _) hlt
        rw [show wordAt q x d i = 0 by unfold wordAt; rw [if_neg (fun h => hd ⟨h.2, h.1⟩)]] at hcx
        gi_wp2
        gi_loopw [4] (fun v wi => v = .int .u64 0 ∧ wi = wr) (fun v _ => 0)
        case atStart => exact ⟨rfl, rfl⟩
        case round =>
          obtain ⟨rfl, rfl⟩ := hrel
          gi_wp2
          go_roundw
          case rel =>
            refine ⟨i + 1, by omega, by simp, fun m h1 h2 => hwr m (by omega) h2, hTr, ?_⟩
            have e : (d = true ∧ q < i + 1) ↔ (d = true ∧ q < i) := by
              constructor
              · rintro ⟨h1, h2⟩; exact ⟨h1, by have : i ≠ q := fun h => hd ⟨h1, h⟩; omega⟩
              · rintro ⟨h1, h2⟩; exact ⟨h1, by omega⟩
            simp only [e]; exact hJr
          case measure => simp [intOf]; omega
    · obtain rfl : i = nh := by omega
      gi_wp2
      go_end0
      refine ⟨⟨_, rfl⟩, .inl ⟨_, rfl, ?_⟩⟩
      have e : (d = true ∧ q < i) ↔ d = true := ⟨fun h => h.1, fun h => ⟨h, hq⟩⟩
      simp only [e] at hJr; exact hJr
end Go.Proofs.Qxb6614570aFmt
