import Derived.Test.Qxb6614570aFmtRows
import Derived.Test.Qxb6614570aFmtTz
import Derived.Lib.LaidU8
import Derived.LaidLaws
import Derived.Stop.Joined
namespace Go.Proofs.Qxb6614570aFmt
open Go.ChangeShapes Go.WideShapes Go.RowKit
open Go.Extern.Stop Go.Stop Go.Extern

theorem Tryf.gTab : Tryf.prog.globalNamed "math/bits.deBruijn64tab" = some 0 := by kernel_rfl
theorem Tryf.gTabType : (Tryf.prog.globals[0]?).map (·.type) = some 72 := by kernel_rfl
theorem Tryf.cells5 : Tryf.prog.cellsOf 5 = 1 := by kernel_rfl
theorem Tryf.cells72 : Tryf.prog.cellsOf 72 = 64 := by kernel_rfl

abbrev tabInts : List Int := tab.map fun (n : Nat) => (n : Int)

theorem laid_tab : (Rows.laid_math_bits_deBruijn64tab : DataW Unit) = .agg (tabInts.map fun z => .lit (.int .u8 z)) := rfl

/-- what 'laid' says of the table -/
theorem table_of_laid {w : World} (h : laidMet Tryf.prog [("math/bits.deBruijn64tab", Rows.laid_math_bits_deBruijn64tab)] w) : Table w := by
  obtain ⟨g, t, cs, fuel, p, hg, hty, hvar, hd⟩ := Lib.laidMet.reads h (n := "math/bits.deBruijn64tab") (d := Rows.laid_math_bits_deBruijn64tab) (by simp)
  obtain rfl := Option.some.inj (Tryf.gTab.symm.trans hg)
  obtain rfl := Option.some.inj (Tryf.gTabType.symm.trans hty)
  rw [laid_tab] at hd
  intro i hi
  obtain ⟨fuel', d, q, hdi, he⟩ := Lib.array_elem Tryf.underlying72 hd i hi
  rw [Tryf.cells5] at he
  obtain ⟨z, hcz, hdq, _⟩ := DataW.trod_int Tryf.underlying5 he
  obtain ⟨rfl, rfl⟩ := Prod.mk.inj hdq
  have h2 : cs.toList[i]? = some (.int .u8 z) := by
    have := congrArg (·[0]?) hcz
    simpa [List.getElem?_take, List.getElem?_drop] using this
  have hv := World.var?_cell hg hvar i
  rw [hv, ← Array.getElem?_toList, h2]
  simp only [List.getElem?_map, Option.map_eq_some_iff] at hdi
  obtain ⟨z1, ⟨n1, hn1, rfl⟩, hz1⟩ := hdi
  simp only [DataW.lit.injEq, Lit.int.injEq, true_and] at hz1
  subst hz1
  rw [List.getD_eq_getElem?_getD, hn1]
  rfl

/-- a start with the table laid -/
noncomputable def laidWorld (os : Os) : World :=
  let w0 := World.holding Tryf.prog os ⟨#[], #[], []⟩
  { w0 with heap := w0.heap.modify 0 fun
      | .cells _ t frozen => .cells (tab.map fun (n : Nat) => Value.int .u8 (n : Int)).toArray t frozen
      | o => o }

theorem laid_met (os : Os) (args : Array Value) : laidMet Tryf.prog [("math/bits.deBruijn64tab", Rows.laid_math_bits_deBruijn64tab)] ((laidWorld os).forCall (fun _ _ => 0) ⟨#[], args, []⟩).memory :=
  laidMet_of_run' 8 (by kernel_rfl) (by kernel_rfl)
end Go.Proofs.Qxb6614570aFmt
