import Derived.Test.Qxb6614570aFmtSet
namespace Go.Proofs.Qxb6614570aFmt
open Go.RowKit
set_option linter.unusedVariables false

def tab : List Nat := [0, 1, 56, 2, 57, 49, 28, 3, 61, 58, 42, 50, 38, 29, 17, 4, 62, 47, 59, 36, 45, 43, 51, 22, 53, 39, 33, 30, 24, 18, 12, 5, 63, 55, 48, 27, 60, 41, 37, 16, 46, 35, 44, 21, 52, 32, 23, 11, 54, 26, 40, 15, 34, 20, 31, 10, 25, 14, 19, 9, 13, 8, 7, 6]

/-- math/bits' table lies in the first global -/
def Table (w : World) : Prop := ∀ i : Nat, i < 64 → w.cell? ⟨0, i, none⟩ = some (.int .u8 ((tab.getD i 0 : Nat) : Int))

theorem Table.of_block {w W : World} (h : Table w) (hW : W.heap[0]? = w.heap[0]?) : Table W := fun i hi => (World.cell?_of_block hW).trans (h i hi)

/-- the table's index for x -/
def tzIdx (x : Int) : Int := IntKind.u64.wrap (bits .and .u64 x (IntKind.u64.wrap (-x)) * 285870213051353865) / 288230376151711744

theorem tz_all : (List.range 64).all (fun j => decide (0 ≤ tzIdx (2 ^ j)) && decide (tzIdx (2 ^ j) < 64) && decide (tab.getD (tzIdx (2 ^ j)).toNat 0 = j)) = true := by kernel_rfl

theorem tz_at {j : Nat} (hj : j < 64) : ∃ i : Nat, i < 64 ∧ tzIdx (2 ^ j) = (i : Int) ∧ tab.getD i 0 = j := by
  have h := List.all_eq_true.1 tz_all j (List.mem_range.2 hj)
  simp only [Bool.and_eq_true, decide_eq_true_eq] at h
  exact ⟨(tzIdx (2 ^ j)).toNat, by omega, by omega, h.2⟩

set_option maxHeartbeats 1000000 in
set_option maxRecDepth 100000 in
theorem tz_any (j : Nat) (w : World) (hj : j < 64) (ht : Table w) :
    Calls Tryf.prog 24 #[.int .u64 (2 ^ j)] w fun e w' => e = .returned (.int .i64 (j : Int)) ∧ w' = w := by
  have hp : (0 : Int) < 2 ^ j := Int.pow_pos (by omega)
  obtain ⟨i, hi, hE, hT⟩ := tz_at hj
  have hc := ht i hi
  rw [hT] at hc
  have hi' : (i : Int) < 64 := by omega
  have hj' : (j : Int) < 256 := by omega
  unfold tzIdx at hE
  generalize (2 : Int) ^ j = x at *
  have h0 : (x == 0) = false := by simp; omega
  clear hp hT ht
  go_enter Tryf.func24, Tryf.ntmps24
  go_wp2
  go_ret
  exact ⟨rfl, rfl⟩
end Go.Proofs.Qxb6614570aFmt
