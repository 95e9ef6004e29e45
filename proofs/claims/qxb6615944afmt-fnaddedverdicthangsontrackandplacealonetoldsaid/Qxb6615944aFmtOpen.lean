import Derived.Test.Qxb6615944aFmtCards
import Derived.Test.Qxb6615944aFmtGives
import Derived.ProofKit
import Derived.OpenShut
import Derived.ShutString
import Derived.SizedLaws
import Derived.Stop.JoinedTold
import Derived.SevenToldRow
namespace Go.Proofs.Qxb6615944aFmt
open Go.ChangeShapes Go.WideShapes Go.ChangeAt Go.RowKit
open Go.Extern.Stop Go.Stop Go.Extern

theorem Tryf.own : ownKnob Tryf.prog.godebug = none := by kernel_rfl
theorem Tryf.laidOut : laidOutB Tryf.prog = true := by kernel_rfl
theorem Tryf.laidOut' : laidOutB Tryf.pinned.checked.prog = true := by kernel_rfl
theorem Tryf.cells24 : Tryf.prog.cellsOf 24 = 1 := by kernel_rfl
theorem Tryf.stops : Tryf.pinned.checked.prog.stops = ["fmt.errorf"] := by kernel_rfl
theorem Tryf.stopKnobs : Tryf.pinned.checked.prog.stopKnobs = [] := by kernel_rfl
theorem Tryf.quiet (os : Os) : Stop.quiet Tryf.pinned.checked.prog os := by
  intro k hk
  rw [Tryf.stopKnobs] at hk
  cases hk

theorem trod_float {H : Type} {enc : TypeId × Value → H} {P : Program} {w : World} {base : Nat} {spare : Nat → Bool} {held : Bool} {t : TypeId} {fuel : Nat} {cs : List Value} {x : DataW H × List MemPlace} {k : FloatKind}
    (ht : P.underlying t = some (.float k)) (h : DataW.trod enc P w base spare held fuel t cs = some x) : ∃ n, cs = [.float k n] := by
  cases fuel with
  | zero => simp [DataW.trod] at h
  | succ n =>
    unfold DataW.trod at h
    rw [ht] at h
    split at h <;> simp_all

/-- an argument of type *float64, opened -/
theorem open_ptrf {H : Type} {enc : TypeId × Value → H} {r : Reach} {b0 : Nat} {W : World} {v : Value} {d : DataW H} {p : List MemPlace}
    (hval : Value.okWide Tryf.prog W r b0 22 v) (h : DataW.Trod enc Tryf.prog W 0 (fun _ => true) true 22 v d p) : ∃ q, v = .pointer q ∧ PtrF W q := by
  rcases ChangeShapes.open_ptr Tryf.underlying22 (by rw [Tryf.cells24]; omega) hval h with ⟨rfl, _, _⟩ | ⟨b, off, cs, y, fuel, rfl, _, _, hlen, hcell, hy⟩
  · exact ⟨none, rfl, .inl rfl⟩
  · obtain ⟨n, rfl⟩ := trod_float Tryf.underlying24 hy
    have hc := hcell 0 (by rw [Tryf.cells24]; omega)
    simp only [Nat.add_zero, List.getElem?_cons_zero] at hc
    exact ⟨_, rfl, .inr ⟨b, off, n, rfl, World.block_lt_of_cell? W _ hc, hc⟩⟩
end Go.Proofs.Qxb6615944aFmt
