import Derived.Test.Qxb6615944aFmtProg
import Derived.Stop.CallBack
import Derived.Stop.IfaceNil
import GoSem.ClaimData
import Derived.WalkKit
import Derived.WalkSpells
namespace Go.Proofs.Qxb6615944aFmt
open Go.RowKit Go.Extern.Stop Go.Stop Go.Extern

/-! fmt.errorf is function 13, a plain stop: its closed facts over this dump -/
theorem call13 (args : Array Value) (w : World) : (callFunc 13 args).run Tryf.prog w = ((FmtStop.errorf #[9, 47] #[38] args).run Tryf.prog w).andThen fun v w' => .ok (.value v) w' :=
  run_callFunc_extern Tryf.func13 (by kernel_rfl) (by kernel_rfl) (by kernel_rfl) (by kernel_rfl) args w
theorem guard13 (name : String) (w : World) : (FmtStop.guard name).run Tryf.prog w = .ok () w := by kernel_rfl
/-- the two formats' bytes -/
theorem fmtA (w : World) : (FmtDoors.printed ⟨#[112, 114, 111, 112, 111, 115, 101, 100, 32, 114, 101, 103, 105, 111, 110, 32, 37, 113, 32, 105, 115, 32, 110, 101, 119, 32, 116, 111, 32, 112, 114, 111, 106, 101, 99, 116, 32, 37, 113, 32, 97, 110, 100, 32, 110, 97, 109, 101, 115, 32, 110, 111, 32, 37, 115]⟩ 3).run Tryf.prog w = .ok [(0, 113, false), (1, 113, false), (2, 115, false)] w := by kernel_rfl
theorem fmtB (w : World) : (FmtDoors.printed ⟨#[112, 114, 111, 112, 111, 115, 101, 100, 32, 114, 101, 103, 105, 111, 110, 32, 37, 113, 58, 32, 112, 114, 111, 106, 101, 99, 116, 32, 37, 113, 32, 104, 97, 115, 32, 110, 111, 32, 116, 114, 97, 99, 107, 32, 37, 113, 44, 32, 97, 110, 100, 32, 110, 111, 110, 101, 32, 111, 102, 32, 116, 104, 97, 116, 32, 105, 100, 32, 105, 115, 32, 112, 114, 111, 112, 111, 115, 101, 100]⟩ 3).run Tryf.prog w = .ok [(0, 113, false), (1, 113, false), (2, 113, false)] w := by kernel_rfl
def shape9 : List UInt8 := [12, 6, 0, 0, 0, 0, 0, 0, 0, 115, 116, 114, 105, 110, 103]
theorem op9_113 (name : String) (x : ByteArray) (w : World) : (FmtStop.operand name true 113 false (.iface 9 (.string x))).run Tryf.prog w = .ok (shape9, FmtStop.pack x.data.toList) w := by kernel_rfl
theorem op9_115 (name : String) (x : ByteArray) (w : World) : (FmtStop.operand name true 115 false (.iface 9 (.string x))).run Tryf.prog w = .ok (shape9, FmtStop.pack x.data.toList) w := by kernel_rfl
theorem ptr49 (w : World) : (FmtStop.ptrTo "errors.errorString").run Tryf.prog w = .ok 49 w := by kernel_rfl
theorem elem49 (w : World) : (elemOf 49).run Tryf.prog w = .ok 51 w := by kernel_rfl

attribute [local go_sem] call13 guard13 fmtA fmtB op9_113 op9_115 ptr49 elem49

set_option maxHeartbeats 400000 in
/-- fmt.Errorf at the first format: a new error, not nil -/
theorem errorfA (F : Interp) (x y z : ByteArray) (blk : Nat) (w : World) (hF : F.answers w.tape)
    (h0 : w.cell? ⟨blk, 0, none⟩ = some (.iface 9 (.string x))) (h1 : w.cell? ⟨blk, 1, none⟩ = some (.iface 9 (.string y))) (h2 : w.cell? ⟨blk, 2, none⟩ = some (.iface 9 (.string z))) :
    Calls Tryf.prog 12 #[.string ⟨#[112, 114, 111, 112, 111, 115, 101, 100, 32, 114, 101, 103, 105, 111, 110, 32, 37, 113, 32, 105, 115, 32, 110, 101, 119, 32, 116, 111, 32, 112, 114, 111, 106, 101, 99, 116, 32, 37, 113, 32, 97, 110, 100, 32, 110, 97, 109, 101, 115, 32, 110, 111, 32, 37, 115]⟩, .slice (some ⟨blk, 0, none⟩) 3 3] w fun e w' =>
      (∃ a, e = .returned (.iface 49 (.pointer (some a)))) ∧ Below w.heap.size w w' := by
  have hF' : ∀ i name reading k range, w.tape i (.extern (word name reading k) range) = F name reading k := hF
  go_enter Tryf.func12, Tryf.ntmps12
  go_wp2
  go_ret
  exact ⟨⟨_, rfl⟩, ((Below.refl _ _).alloc (Nat.le_refl _) _).drew⟩

set_option maxHeartbeats 400000 in
/-- fmt.Errorf at the second format: a new error, not nil -/
theorem errorfB (F : Interp) (x y z : ByteArray) (blk : Nat) (w : World) (hF : F.answers w.tape)
    (h0 : w.cell? ⟨blk, 0, none⟩ = some (.iface 9 (.string x))) (h1 : w.cell? ⟨blk, 1, none⟩ = some (.iface 9 (.string y))) (h2 : w.cell? ⟨blk, 2, none⟩ = some (.iface 9 (.string z))) :
    Calls Tryf.prog 12 #[.string ⟨#[112, 114, 111, 112, 111, 115, 101, 100, 32, 114, 101, 103, 105, 111, 110, 32, 37, 113, 58, 32, 112, 114, 111, 106, 101, 99, 116, 32, 37, 113, 32, 104, 97, 115, 32, 110, 111, 32, 116, 114, 97, 99, 107, 32, 37, 113, 44, 32, 97, 110, 100, 32, 110, 111, 110, 101, 32, 111, 102, 32, 116, 104, 97, 116, 32, 105, 100, 32, 105, 115, 32, 112, 114, 111, 112, 111, 115, 101, 100]⟩, .slice (some ⟨blk, 0, none⟩) 3 3] w fun e w' =>
      (∃ a, e = .returned (.iface 49 (.pointer (some a)))) ∧ Below w.heap.size w w' := by
  have hF' : ∀ i name reading k range, w.tape i (.extern (word name reading k) range) = F name reading k := hF
  go_enter Tryf.func12, Tryf.ntmps12
  go_wp2
  go_ret
  exact ⟨⟨_, rfl⟩, ((Below.refl _ _).alloc (Nat.le_refl _) _).drew⟩


set_option maxHeartbeats 400000 in
/-- 'missing' (the closure in 'added'): whatever the key: a new error, not nil -/
theorem missing_any (F : Interp) (key rid pj : ByteArray) (b1 b2 : Nat) (w : World) (hF : F.answers w.tape)
    (h0 : w.cell? ⟨b1, 0, none⟩ = some (.string rid)) (h1 : w.cell? ⟨b2, 0, none⟩ = some (.string pj)) :
    Calls Tryf.prog 11 #[.string key, .pointer (some ⟨b1, 0, none⟩), .pointer (some ⟨b2, 0, none⟩)] w fun e w' =>
      (∃ a, e = .returned (.iface 49 (.pointer (some a)))) ∧ Below w.heap.size w w' := by
  go_enter Tryf.func11, Tryf.ntmps11
  go_wp2_with (go_at_call 12; refine (errorfA F rid pj key w.heap.size _ ?f0 ?c0 ?c1 ?c2).mono ?k)
  case f0 => exact hF
  case c0 => simp
  case c1 => simp
  case c2 => simp
  case k =>
    rintro e w' ⟨⟨a, rfl⟩, hb⟩
    go_wp2
    go_ret
    exact ⟨⟨_, rfl⟩, ((Below.refl _ _).alloc (Nat.le_refl _) _).trans (hb.mono (by simp))⟩

/-- 'known': the closure in ZZb1Added -/
theorem known_any (tid kt : ByteArray) (b : Nat) (w : World) (h0 : w.cell? ⟨b, 0, none⟩ = some (.string kt)) :
    Calls Tryf.prog 10 #[.string tid, .pointer (some ⟨b, 0, none⟩)] w fun e w' => e = .returned (.bool (tid.toList == kt.toList)) ∧ w' = w := by
  go_enter Tryf.func10, Tryf.ntmps10
  go_wp2
  go_ret
  exact ⟨rfl, rfl⟩
end Go.Proofs.Qxb6615944aFmt
