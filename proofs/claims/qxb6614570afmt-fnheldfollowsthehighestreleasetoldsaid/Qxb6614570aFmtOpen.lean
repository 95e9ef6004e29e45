import Derived.Test.Qxb6614570aFmtLaid
import Derived.Test.Qxb6614570aFmtTie
import Derived.Test.Qxb6614570aFmtCards
import Derived.Test.Qxb6614570aFmtNums
import Derived.ChangeSlices
import Derived.ProofKit
import Derived.OpenShut
import Derived.SizedLaws
import Derived.Stop.JoinedAt
import Derived.Stop.JoinedTold
import Derived.SevenToldRow
import Derived.SevenTiedAt
namespace Go.Proofs.Qxb6614570aFmt
open Go.ChangeShapes Go.WideShapes Go.ChangeAt Go.RowKit
open Go.Extern.Stop Go.Stop Go.Extern

theorem Tryf.own : ownKnob Tryf.prog.godebug = none := by kernel_rfl
theorem Tryf.laidOut : laidOutB Tryf.prog = true := by kernel_rfl
theorem Tryf.laidOut' : laidOutB Tryf.pinned.checked.prog = true := by kernel_rfl
theorem Tryf.cells40 : Tryf.prog.cellsOf 40 = 1 := by kernel_rfl
theorem Tryf.stops : Tryf.pinned.checked.prog.stops = ["fmt.errorf"] := by kernel_rfl
theorem Tryf.stopKnobs : Tryf.pinned.checked.prog.stopKnobs = [] := by kernel_rfl
theorem Tryf.quiet (os : Os) : Stop.quiet Tryf.pinned.checked.prog os := by
  intro k hk
  rw [Tryf.stopKnobs] at hk
  cases hk

theorem bounds_i64 {v : Int} (h : (Lit.int .i64 v).wf = true) : -9223372036854775808 ≤ v ∧ v ≤ 9223372036854775807 := by
  have e1 : IntKind.i64.min = -9223372036854775808 := rfl
  have e2 : IntKind.i64.max = 9223372036854775807 := rfl
  simp only [Lit.wf, e1, e2, Bool.and_eq_true, decide_eq_true_eq] at h
  omega
theorem bounds_u32 {v : Int} (h : (Lit.int .u32 v).wf = true) : 0 ≤ v ∧ v ≤ 4294967295 := by
  have e1 : IntKind.u32.min = 0 := rfl
  have e2 : IntKind.u32.max = 4294967295 := rfl
  simp only [Lit.wf, e1, e2, Bool.and_eq_true, decide_eq_true_eq] at h
  omega

/-- an argument of type []uint32 -/
structure IsNums (w : World) (ao : Option Addr) (n cap : Nat) (S : Nat → Nat) : Prop where
  nil : ao = none → n = 0 ∧ cap = 0
  len : n ≤ maxLen
  cells : Nums w ao n S

theorem open_nums_arg {H : Type} {enc : TypeId × Value → H} {W : World} {a0 : Option Addr} {len cap : Nat} {d : DataW H} {p : List MemPlace}
    (h : DataW.Trod enc Tryf.prog W 0 (fun _ => true) true 22 (.slice a0 len cap) d p) : ∃ S, IsNums W a0 len cap S := by
  obtain ⟨fuel, hf⟩ := h
  rcases open_ints Tryf.underlying22 Tryf.underlying40 Tryf.cells40 hf with ⟨hcs, _⟩ | ⟨a, l, c, zs, hcs, _, hl, hm, hz, _, hcell, hws⟩
  · simp [Value.cells] at hcs
    obtain ⟨rfl, rfl, rfl⟩ := hcs
    exact ⟨fun _ => 0, fun _ => ⟨rfl, rfl⟩, Nat.zero_le _, fun i hi => absurd hi (Nat.not_lt_zero _)⟩
  · simp [Value.cells] at hcs
    obtain ⟨rfl, rfl, rfl⟩ := hcs
    simp only [if_true] at hz
    refine ⟨fun i => (zs.getD i 0).toNat, fun e => by simp at e, by omega, ?_⟩
    intro i hi
    have hmem : zs.getD i 0 ∈ zs := by
      rw [List.getD_eq_getElem?_getD, List.getElem?_eq_getElem (by omega)]
      exact List.getElem_mem _
    have hb := bounds_u32 (hws _ hmem)
    obtain ⟨b, off, spot⟩ := a
    have hspot : spot = none := by simpa [Addr.add] using World.cell?_spot (hcell 0 (by omega))
    subst hspot
    refine ⟨by show (zs.getD i 0).toNat ≤ _; omega, b, off, rfl, ?_⟩
    rw [← add_plain, hcell i (by omega)]
    congr 2
    show zs.getD i 0 = ((zs.getD i 0).toNat : Int)
    omega

theorem Table.pos {w : World} (h : Table w) : 0 < w.heap.size := World.block_lt_of_cell? w _ (h 0 (by omega))
end Go.Proofs.Qxb6614570aFmt
