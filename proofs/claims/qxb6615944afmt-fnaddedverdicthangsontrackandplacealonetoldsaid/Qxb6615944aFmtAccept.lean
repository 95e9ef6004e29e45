import Derived.Test.Qxb6615944aFmtAdded
import Derived.BigRegion
namespace Go.Proofs.Qxb6615944aFmt
open Go.RowKit Go.Extern.Stop Go.Stop Go.Extern
attribute [local go_sem] run_store_float

/-- accepted: the region, no error -/
def Accepted (rid tid nm : ByteArray) (s d : Nat) (w : World) (e : Ending) (w' : World) : Prop :=
  e = .returned (.tuple #[reg rid tid nm s d, .nilIface]) ∧ Below w.heap.size w w'

set_option maxHeartbeats 1000000 in
theorem added_yes (rid tid nm pj : ByteArray) (sb so db dO s d : Nat) (bk : Nat) (kt : ByteArray) (w : World) (h0 : tid.toList.isEmpty = false) (h1 : (tid.toList == kt.toList) = true) (hbk : bk < w.heap.size) (hk : w.cell? ⟨bk, 0, none⟩ = some (.string kt))
    (hsb : sb < w.heap.size) (hs : w.cell? ⟨sb, so, none⟩ = some (.float .f64 s)) (hdb : db < w.heap.size) (hd : w.cell? ⟨db, dO, none⟩ = some (.float .f64 d)) :
    Calls Tryf.prog 9 #[prop rid tid nm (some ⟨sb, so, none⟩) (some ⟨db, dO, none⟩), .string pj, .func (.func 10) #[] #[.pointer (some ⟨bk, 0, none⟩)]] w fun e w' => Accepted rid tid nm s d w e w' := by
  have hk1 : bk < w.heap.size + 1 := by omega
  have hk2 : bk < w.heap.size + 1 + 1 := by omega
  have hk3 : bk < w.heap.size + 1 + 1 + 1 := by omega
  have hs1 : sb < w.heap.size + 1 := by omega
  have hs2 : sb < w.heap.size + 1 + 1 := by omega
  have hs3 : sb < w.heap.size + 1 + 1 + 1 := by omega
  have hd1 : db < w.heap.size + 1 := by omega
  have hd2 : db < w.heap.size + 1 + 1 := by omega
  have hd3 : db < w.heap.size + 1 + 1 + 1 := by omega
  go_enter Tryf.func9, Tryf.ntmps9
  go_wp2_with go_in
  go_region
  go_wp2
  try simp only [Exit.inBlock, Exit.then]
  refine bodyPost_ret (v := .tuple #[reg rid tid nm s d, .nilIface]) (by simp [results, Tryf.results9, go_sem]) rfl ⟨rfl, ?_⟩
  repeat (first | exact Below.refl _ _ | apply Below.drew | refine Below.alloc ?_ (by simp <;> omega) _ | refine Below.setCell ?_ (by simp <;> omega) _)
end Go.Proofs.Qxb6615944aFmt
