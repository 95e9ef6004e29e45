import Derived.Test.Qxb6615944aProg
import Derived.WalkKit
import Derived.WalkSpells
namespace Go.Proofs.Qxb6615944a
open Go.RowKit

/-- what 'known' answers -/
def knw (n : Nat) (v : Int) : Bool := decide (0 ≤ v) && decide (v < n)

set_option maxHeartbeats 400000 in
/-- '(textForms).known' -/
theorem known_any (k : ByteArray) (ao : Option Addr) (n cap : Nat) (v : Int) (w : World) :
    Calls Try.prog 13 #[.agg #[.string k, .slice ao n cap], .int .i64 v] w
      fun e w' => e = .returned (.bool (knw n v)) ∧ Below w.heap.size w w' := by
  by_cases h1 : 0 ≤ v
  · have e1 : knw n v = decide (v < n) := by simp [knw, h1]
    rw [e1]
    clear e1
    go_enter Try.func13, Try.ntmps13
    go_wp2
    go_ret
    exact ⟨rfl, (Below.refl _ _).alloc (Nat.le_refl _) _⟩
  · have e1 : knw n v = false := by simp [knw, h1]
    rw [e1]
    clear e1
    go_enter Try.func13, Try.ntmps13
    go_wp2
    go_ret
    exact ⟨rfl, (Below.refl _ _).alloc (Nat.le_refl _) _⟩

set_option maxHeartbeats 400000 in
/-- 'ZZb1Known' -/
theorem zzknown_any (k : ByteArray) (ao : Option Addr) (n cap : Nat) (v : Int) (w : World) :
    Calls Try.prog 10 #[.string k, .slice ao n cap, .int .i64 v] w
      fun e w' => e = .returned (.bool (knw n v)) ∧ Below w.heap.size w w' := by
  go_enter Try.func10, Try.ntmps10
  go_wp2_with (go_at_call 13; refine (known_any _ _ _ _ _ _).mono ?_; rintro e w' ⟨rfl, hg⟩)
  go_ret
  exact ⟨rfl, hg⟩

/-- A SLICE OF n STRINGS THAT CAN BE READ IN w -/
def Strs (w : World) (ao : Option Addr) (n : Nat) (S : Nat → ByteArray) : Prop :=
  ∀ i, i < n → ∃ b off, ao = some ⟨b, off, none⟩ ∧ w.cell? ⟨b, off + i, none⟩ = some (.string (S i))

set_option maxHeartbeats 400000 in
/-- 'zzvb1StringsBytes': some number, not below zero; nothing turns -/
theorem bytes_any (t : Int) (ao : Option Addr) (n cap : Nat) (S : Nat → ByteArray) (w : World) (h0 : 0 ≤ t) (h1 : t ≤ 1048576) (hn : n ≤ 1048576) (hS : Strs w ao n S) (hZ : ∀ i, i < n → (S i).size ≤ 1048576) :
    Calls Try.prog 9 #[.int .i64 t, .slice ao n cap] w
      fun e w' => ∃ r : Int, e = .returned (.int .i64 r) ∧ 0 ≤ r ∧ w' = w := by
  go_enter Try.func9, Try.ntmps9
  go_wp2
  go_loop [0, 5] (fun t i => ∃ (k : Nat) (x : Int), k ≤ n ∧ i = .int .i64 k ∧ t = .int .i64 x ∧ 0 ≤ x ∧ x ≤ 1048576) (fun _ i => n - (intOf i).toNat)
  case atStart => exact ⟨0, t, Nat.zero_le _, rfl, rfl, h0, h1⟩
  case round =>
    obtain ⟨k, x, hk, rfl, rfl, hx0, hx1⟩ := hrel
    by_cases hlt : k < n
    · obtain ⟨b, off, hao, hc⟩ := hS k hlt
      have hz := hZ k hlt
      generalize S k = s at hc hz
      subst hao
      go_wp2
      · go_ret
        exact ⟨_, rfl, by omega, rfl⟩
      · go_round
        case rel => exact ⟨k + 1, _, by omega, by go_num, rfl, by omega, by omega⟩
        case measure => simp [intOf]; omega
    · go_wp2
      go_ret
      exact ⟨_, rfl, hx0, rfl⟩

/-- an answer 'r' that, if true, says A; the world stands -/
def SaysB (w : World) (A : Prop) (e : Ending) (w' : World) : Prop := ∃ r : Bool, e = .returned (.bool r) ∧ w' = w ∧ (r = true → A)

theorem all_succ {S : Nat → ByteArray} {k : Nat} (h : ∀ i, i < k → (S i).size ≤ 1048576) (hk : (S k).size ≤ 1048576) : ∀ i, i < k + 1 → (S i).size ≤ 1048576 := by
  intro i hi
  by_cases e : i = k
  · rw [e]; exact hk
  · exact h i (by omega)

set_option maxHeartbeats 2000000 in
/-- 'zzBytes_FnKnownJoinAtAnyCut': true only where every string is short; nothing turns -/
theorem zzJoin_any (kd : ByteArray) (ao : Option Addr) (na ca : Nat) (S : Nat → ByteArray) (bo : Option Addr) (nb cb : Nat) (T : Nat → ByteArray) (v : Int) (w : World)
    (hk : kd.size ≤ maxLen) (ha : na ≤ maxLen) (hb : nb ≤ maxLen) (hS : Strs w ao na S) (hT : Strs w bo nb T) (hSm : ∀ i, i < na → (S i).size ≤ maxLen) (hTm : ∀ i, i < nb → (T i).size ≤ maxLen) :
    Calls Try.prog 8 #[.string kd, .slice ao na ca, .slice bo nb cb, .int .i64 v] w
      fun e w' => SaysB w ((∀ i, i < na → (S i).size ≤ 1048576) ∧ (∀ i, i < nb → (T i).size ≤ 1048576)) e w' := by
  unfold maxLen at hk ha hb
  go_enter Try.func8, Try.ntmps8
  go_wp2
  · go_ret; exact ⟨_, rfl, rfl, by simp⟩
  · go_ret; exact ⟨_, rfl, rfl, by simp⟩
  · go_ret; exact ⟨_, rfl, rfl, by simp⟩
  · go_loop [9, 10] (fun t i => ∃ (k : Nat) (x : Int), k ≤ na ∧ i = .int .i64 k ∧ t = .int .i64 x ∧ 0 ≤ x ∧ x ≤ 1048576 ∧ ∀ i, i < k → (S i).size ≤ 1048576) (fun _ i => na - (intOf i).toNat)
    case atStart => exact ⟨0, _, Nat.zero_le _, rfl, rfl, by omega, by omega, fun i hi => absurd hi (Nat.not_lt_zero _)⟩
    case round =>
      obtain ⟨k, x, hk, rfl, rfl, hx0, hx1, hall⟩ := hrel
      by_cases hlt : k < na
      · obtain ⟨b, off, hao, hc⟩ := hS k hlt
        have hz := hSm k hlt
        have HA : Hid ((S k).size ≤ 1048576 → ∀ i, i < k + 1 → (S i).size ≤ 1048576) := fun h => all_succ hall h
        generalize S k = s at hc hz HA
        subst hao
        unfold maxLen at hz
        clear hall
        go_wp2
        · go_ret; exact ⟨_, rfl, rfl, by simp⟩
        · go_ret; exact ⟨_, rfl, rfl, by simp⟩
        · go_round
          case rel => exact ⟨k + 1, _, by omega, by go_num, rfl, by omega, by omega, HA.out (by omega)⟩
          case measure => simp [intOf]; omega
      · have HA : Hid (∀ i, i < na → (S i).size ≤ 1048576) := fun i hi => hall i (by omega)
        clear hall
        go_wp2
        · go_ret; exact ⟨_, rfl, rfl, by simp⟩
        · go_ret; exact ⟨_, rfl, rfl, by simp⟩
        · go_loop [9, 11] (fun t i => ∃ (k : Nat) (x : Int), k ≤ nb ∧ i = .int .i64 k ∧ t = .int .i64 x ∧ 0 ≤ x ∧ x ≤ 1048576 ∧ ∀ i, i < k → (T i).size ≤ 1048576) (fun _ i => nb - (intOf i).toNat)
          case atStart => exact ⟨0, _, Nat.zero_le _, rfl, rfl, by omega, by omega, fun i hi => absurd hi (Nat.not_lt_zero _)⟩
          case round =>
            obtain ⟨k2, x2, hk2, rfl, rfl, hx20, hx21, hall⟩ := hrel
            by_cases hlt2 : k2 < nb
            · obtain ⟨b, off, hao, hc⟩ := hT k2 hlt2
              have hz := hTm k2 hlt2
              have HB : Hid ((T k2).size ≤ 1048576 → ∀ i, i < k2 + 1 → (T i).size ≤ 1048576) := fun h => all_succ hall h
              generalize T k2 = s at hc hz HB
              subst hao
              unfold maxLen at hz
              clear hall
              go_wp2
              · go_ret; exact ⟨_, rfl, rfl, by simp⟩
              · go_ret; exact ⟨_, rfl, rfl, by simp⟩
              · go_round
                case rel => exact ⟨k2 + 1, _, by omega, by go_num, rfl, by omega, by omega, HB.out (by omega)⟩
                case measure => simp [intOf]; omega
            · have HB : Hid (∀ i, i < nb → (T i).size ≤ 1048576) := fun i hi => hall i (by omega)
              clear hall
              go_wp2
              go_ret
              exact ⟨_, rfl, rfl, fun _ => ⟨HA.out, HB.out⟩⟩
end Go.Proofs.Qxb6615944a
