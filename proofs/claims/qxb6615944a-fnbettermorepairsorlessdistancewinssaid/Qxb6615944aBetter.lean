import Derived.Test.Qxb6615944aProg
import Derived.WalkKit
namespace Go.Proofs.Qxb6615944a
open Go.RowKit

/-- what 'better' answers, with no Go in sight -/
def btr (a b c d : Int) : Bool := decide (c < a) || ((a == c) && decide (b < d))

theorem btr_gt {a b c d : Int} (h : c < a) : btr a b c d = true := by simp [btr, h]
theorem btr_lt {a b c d : Int} (h : ¬ c < a) (h2 : (a == c) = false) : btr a b c d = false := by simp [btr, h, h2]
theorem btr_eq {a b d : Int} : btr a b a d = decide (b < d) := by simp [btr]

theorem grown_trans {a b c : World} (h : Grown a b) (k : Grown b c) : Grown a c :=
  ⟨World.keptBut_trans h.1 k.1, fun x => (k.2.1 x).trans (h.2.1 x), Nat.le_trans h.2.2 k.2.2⟩

set_option maxHeartbeats 400000 in
/-- '(pitchPairing).better': every pair of pairings -/
theorem better_any (a b s c d t : Int) (w : World) :
    Calls Try.prog 12 #[.agg #[.int .i64 a, .int .i64 b, .int .i64 s], .agg #[.int .i64 c, .int .i64 d, .int .i64 t]] w
      fun e w' => e = .returned (.bool (btr a b c d)) ∧ Grown w w' := by
  by_cases h1 : c < a
  · rw [btr_gt h1]
    go_enter Try.func12, Try.ntmps12
    go_wp2
    go_ret
    exact ⟨rfl, by repeat (first | exact Grown.refl _ | apply Grown.drew | apply Grown.alloc)⟩
  · by_cases h2 : a = c
    · subst h2
      rw [btr_eq]
      go_enter Try.func12, Try.ntmps12
      go_wp2
      go_ret
      exact ⟨rfl, by repeat (first | exact Grown.refl _ | apply Grown.drew | apply Grown.alloc)⟩
    · have h3 : (a == c) = false := by simpa using h2
      rw [btr_lt h1 h3]
      clear h2
      go_enter Try.func12, Try.ntmps12
      go_wp2
      go_ret
      exact ⟨rfl, by repeat (first | exact Grown.refl _ | apply Grown.drew | apply Grown.alloc)⟩

set_option maxHeartbeats 400000 in
/-- 'ZZb1Better' -/
theorem zzbetter_any (a b s c d t : Int) (w : World) :
    Calls Try.prog 7 #[.int .i64 a, .int .i64 b, .int .i64 s, .int .i64 c, .int .i64 d, .int .i64 t] w
      fun e w' => e = .returned (.bool (btr a b c d)) ∧ Grown w w' := by
  go_enter Try.func7, Try.ntmps7
  go_wp2_with (go_at_call 12; refine (better_any _ _ _ _ _ _ _).mono ?_; rintro e w' ⟨rfl, hg⟩)
  go_ret
  exact ⟨rfl, hg⟩
end Go.Proofs.Qxb6615944a
