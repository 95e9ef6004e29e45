import Derived.Test.Qxb6614570aFmtBase
import Derived.RegionTactic
import Derived.Laws.BitsAllLaws
import Derived.BigRegion
namespace Go.Proofs.Qxb6614570aFmt
open Go.RowKit

theorem pow_lt {j : Nat} (h : j < 64) : 2 ^ j < 18446744073709551616 := by
  have := Nat.pow_lt_pow_right (a := 2) (by omega) h
  simpa using this
theorem cast_pow (j : Nat) : (2 : Int) ^ j = ((2 ^ j : Nat) : Int) := by rw [Int.natCast_pow]; rfl
theorem wrap_pow {j : Nat} (h : j < 64) : IntKind.u64.wrap (2 ^ j) = 2 ^ j := by
  have := pow_lt h
  rw [IntKind.wrap_u64, cast_pow]
  generalize 2 ^ j = x at *
  omega
theorem or_pow {j : Nat} (h : j < 64) {v : Int} (hv : v = 0 ∨ v = 2 ^ j) : bits .or .u64 v (2 ^ j) = 2 ^ j := by
  have hp := pow_lt h
  rw [cast_pow] at *
  rcases hv with rfl | rfl
  · rw [show (0 : Int) = ((0 : Nat) : Int) from rfl, u64_or_nat 0 _ (by omega) hp]; simp
  · rw [u64_or_nat _ _ hp hp]; simp
theorem andNot_pow {j : Nat} (h : j < 64) : bits .andNot .u64 (2 ^ j) (2 ^ j) = 0 := by
  have hp := pow_lt h
  rw [cast_pow, u64_andNot_nat _ _ hp hp]
  have : (2 ^ j &&& (18446744073709551615 - 2 ^ j) : Nat) = 0 := by
    apply Nat.eq_of_testBit_eq
    intro i
    rw [Nat.testBit_and, show 18446744073709551615 - 2 ^ j = 2 ^ 64 - (2 ^ j + 1) by omega, Nat.testBit_two_pow_sub_succ hp]
    simp only [Nat.testBit_two_pow, Nat.zero_testBit]
    by_cases e : j = i <;> simp [e]
  rw [this]
  rfl

/-- the store that both set functions make -/
abbrev setWord (w : World) (H id : Nat) (v : Int) : World := (w.setCell ⟨H, id / 64, none⟩ (.int .u64 v)).drew

set_option maxHeartbeats 400000 in
/-- '(memberSet).add' -/
theorem setAdd_any (H id nh ch : Nat) (v : Int) (w : World) (hid : id ≤ 65536) (hq : id / 64 < nh) (hv : v = 0 ∨ v = 2 ^ (id % 64)) (hc : w.cell? ⟨H, id / 64, none⟩ = some (.int .u64 v)) (hf : w.frozen? ⟨H, id / 64, none⟩ = false) :
    Calls Tryf.prog 21 #[.slice (some ⟨H, 0, none⟩) nh ch, .int .i64 (id : Int)] w
      fun e w' => e = .returned (.tuple #[]) ∧ w' = setWord w H id (2 ^ (id % 64)) := by
  have hj : id % 64 < 64 := Nat.mod_lt _ (by omega)
  have Hb : Hid (bits .or .u64 v (IntKind.u64.wrap (2 ^ (id % 64))) = 2 ^ (id % 64)) := by rw [wrap_pow hj]; exact or_pow hj hv
  clear hv
  go_enter Tryf.func21, Tryf.ntmps21
  go_region
  go_end0
  exact ⟨rfl, by rw [Hb.out]⟩

set_option maxHeartbeats 400000 in
/-- '(memberSet).remove' where the member is in it -/
theorem setRemove_any (H id nh ch : Nat) (w : World) (hid : id ≤ 65536) (hq : id / 64 < nh) (hc : w.cell? ⟨H, id / 64, none⟩ = some (.int .u64 (2 ^ (id % 64)))) (hf : w.frozen? ⟨H, id / 64, none⟩ = false) :
    Calls Tryf.prog 25 #[.slice (some ⟨H, 0, none⟩) nh ch, .int .i64 (id : Int)] w
      fun e w' => e = .returned (.tuple #[]) ∧ w' = setWord w H id 0 := by
  have hj : id % 64 < 64 := Nat.mod_lt _ (by omega)
  have Hb : Hid (bits .andNot .u64 (2 ^ (id % 64)) (IntKind.u64.wrap (2 ^ (id % 64))) = 0) := by rw [wrap_pow hj]; exact andNot_pow hj
  go_enter Tryf.func25, Tryf.ntmps25
  go_region
  go_end0
  exact ⟨rfl, by rw [Hb.out]⟩

/-- 'Held' -/
theorem held_any (M : Nat) (x : Int) (w : World) (hc : w.cell? ⟨M, 5, none⟩ = some (.int .i64 x)) :
    Calls Tryf.prog 8 #[.pointer (some ⟨M, 0, none⟩)] w fun e w' => e = .returned (.int .i64 x) ∧ w' = w := by
  go_enter Tryf.func8, Tryf.ntmps8
  go_wp2
  go_ret
  exact ⟨rfl, rfl⟩

/-- 'life' where lives is nil -/
theorem life_any (M : Nat) (j : Value) (w : World) (hc : w.cell? ⟨M, 6, none⟩ = some .nilFunc) :
    Calls Tryf.prog 15 #[.pointer (some ⟨M, 0, none⟩), j] w fun e w' => e = .returned (.int .u32 0) ∧ w' = w := by
  have q43 : ∀ w : World, (binOp .eql 43 .nilFunc .nilFunc).run Tryf.prog w = .ok (.bool true) w := fun w => by kernel_rfl
  go_enter Tryf.func15, Tryf.ntmps15
  go_wp2
  go_ret
  exact ⟨rfl, rfl⟩
end Go.Proofs.Qxb6614570aFmt
