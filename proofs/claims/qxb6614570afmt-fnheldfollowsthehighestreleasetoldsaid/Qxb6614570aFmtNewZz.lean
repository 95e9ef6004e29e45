import Derived.Test.Qxb6614570aFmtNew
namespace Go.Proofs.Qxb6614570aFmt
open Go.RowKit
set_option linter.unusedVariables false

/-- the new Multicast: where it lies, and its state -/
def Made (w : World) (id n : Nat) (e : Ending) (w' : World) : Prop :=
  ∃ cd cs ch, e = .returned (.pointer (some ⟨w.heap.size + 1, 0, none⟩)) ∧ (newLay w id n cd cs ch).Ok ∧ MC (newLay w id n cd cs ch) w' none 0 0 0 ∧ Below w.heap.size w w'

set_option maxHeartbeats 1000000 in
set_option maxRecDepth 100000 in
theorem newM_any (id n : Nat) (ask : Int) (w : World) (h0 : id < n) (hn : n ≤ 65536) :
    Calls Tryf.prog 19 #[.int .i64 (id : Int), .agg #[.int .i64 (n : Int), .int .u32 0], .int .i64 ask, .func (.func 13) #[] #[]] w fun e w' => Made w id n e w' := by
  have FIT := fit_any (w.heap.size + 1) n (twoNew w id n ask) (by omega) hn (by simp) (by go_simp) (by go_simp) (by go_simp) (by go_simp) (by go_simp)
  go_enter Tryf.func19, Tryf.ntmps19
  go_wp2_with (go_at_call 26; refine FIT.mono ?_; rintro e w' ⟨rfl, cd, cs, ch, h1, h2, h3, rfl⟩)
  go_ret
  obtain ⟨a, b⟩ := MC.new w id n cd cs ch ask h0 hn
  exact ⟨cd, cs, ch, rfl, newLay_ok w id n cd cs ch h0 hn h1 h2 h3, a, b⟩

theorem NewM_any (id n : Nat) (ask : Int) (w : World) (h0 : id < n) (hn : n ≤ 65536) :
    Calls Tryf.prog 12 #[.int .i64 (id : Int), .int .i64 (n : Int), .int .i64 ask, .func (.func 13) #[] #[]] w fun e w' => Made w id n e w' := by
  go_enter Tryf.func12, Tryf.ntmps12
  go_wp2_with (go_at_call 19; refine (newM_any id n ask _ h0 hn).mono ?_; rintro e w' ⟨cd, cs, ch, rfl, h1, h2, h3⟩)
  go_ret
  exact ⟨cd, cs, ch, rfl, h1, h2, h3⟩

theorem zzNewM_any (id n : Nat) (ask : Int) (w : World) (h0 : id < n) (hn : n ≤ 65536) :
    Calls Tryf.prog 6 #[.int .i64 (id : Int), .int .i64 (n : Int), .int .i64 ask] w fun e w' => Made w id n e w' := by
  go_enter Tryf.func6, Tryf.ntmps6
  go_wp2_with (go_at_call 12; refine (NewM_any id n ask _ h0 hn).mono ?_; rintro e w' ⟨cd, cs, ch, rfl, h1, h2, h3⟩)
  go_ret
  exact ⟨cd, cs, ch, rfl, h1, h2, h3⟩
end Go.Proofs.Qxb6614570aFmt
