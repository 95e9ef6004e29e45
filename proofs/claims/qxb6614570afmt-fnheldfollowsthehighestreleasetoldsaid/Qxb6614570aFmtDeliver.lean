import Derived.Test.Qxb6614570aFmtSet
import Derived.Deep.QuietTactic
import Derived.BigQuiet
import Derived.Maps.AppendAt
namespace Go.Proofs.Qxb6614570aFmt
open Go.RowKit
set_option linter.unusedVariables false

/-- 'm[x]' gives a pointer that is not nil (nil), at the map in block C, in every world in which that block is as in w -/
def LookYes (w : World) (C : Nat) (x : Int) : Prop :=
  ∀ W : World, W.heap[C]? = w.heap[C]? → ∃ a, (Instr.lookup 59 (.map (some C)) (.int .u32 x) false).run Tryf.prog W = .ok (.pointer (some a)) W
def LookNo (w : World) (C : Nat) (x : Int) : Prop :=
  ∀ W : World, W.heap[C]? = w.heap[C]? → (Instr.lookup 59 (.map (some C)) (.int .u32 x) false).run Tryf.prog W = .ok (.pointer none) W

theorem Tryf.info26 : (Tryf.prog.info? 26).map (fun i => (i.zero, i.size, i.bytes)) = some (some (.pointer none), 1, 8) := by kernel_rfl

set_option maxHeartbeats 400000 in
set_option maxRecDepth 100000 in
theorem deliver_any (M D S C id n cd cs k : Nat) (w : World) (hid : id < n) (hn : n ≤ 65536) (hk : k ≤ 131072)
    (hMD : M ≠ D) (hSD : S ≠ D) (hCD : C ≠ D) (lD : D < w.heap.size) (lC : C < w.heap.size) (lM : M < w.heap.size) (lS : S < w.heap.size)
    (c7 : w.cell? ⟨M, 7, none⟩ = some (.slice (some ⟨D, 0, none⟩) n cd)) (c8 : w.cell? ⟨M, 8, none⟩ = some (.slice (some ⟨S, 0, none⟩) n cs))
    (d : w.cell? ⟨D, id, none⟩ = some (.int .u32 (k : Int))) (fD : ∀ j, w.frozen? ⟨D, j, none⟩ = false) (s1 : w.cell? ⟨S, id * 4 + 1, none⟩ = some (.map (some C)))
    (L1 : LookYes w C ((k : Int) + 1)) (L2 : LookNo w C ((k : Int) + 1 + 1)) :
    Calls Tryf.prog 22 #[.pointer (some ⟨M, 0, none⟩), .int .i64 (id : Int), .slice none 0 0] w
      fun e w' => (∃ v, e = .returned v) ∧ Below w.heap.size (w.setCell ⟨D, id, none⟩ (.int .u32 ((k : Int) + 1))) w' := by
  obtain ⟨a, l1⟩ := L1 w.drew.drew rfl
  go_enter Tryf.func22, Tryf.ntmps22
  go_wp2
  go_region
  go_wp2
  go_region
  go_wp2
  refine wp_loop_rounds 2 ?_
  rw [rounds_succ]
  obtain ⟨i0, hi, hz0, hz1, hz2⟩ := info_parts Tryf.info26
  go_wp2_with (at_builtin; refine wpList_append_own _ rfl _ _ 52 rfl w.heap.size 26 i0 (.pointer none) 1 8 Tryf.underlying52 hi hz0 hz1 hz2 rfl (by decide) _ _ _ rfl (World.ownsRow_nil _ _ _ _) ⟨w.heap.size, 0, none⟩ 1 1 [.pointer (some a)] rfl rfl ?a1 ?a2 ?a3 ?a4 ?a5 ?a6)
  case a1 =>
    have := cell_one_new (w.setCell ⟨D, id, none⟩ (.int .u32 ((k : Int) + 1))) (.pointer (some a)) 26
    simpa using this
  case a2 => intro u hu; simp at hu; subst hu; rfl
  case a3 => decide
  case a4 => decide
  case a5 => simp
  case a6 =>
  intro v' w1 hown hgrow _
  have hb : Below w.heap.size (w.setCell ⟨D, id, none⟩ (.int .u32 ((k : Int) + 1))) w1 :=
    (((Below.refl _ _).alloc (by simp) _).drew.drew).grown hgrow (by simp) (fun j e => by cases e)
  have d1 : w1.cell? ⟨D, id, none⟩ = some (.int .u32 ((k : Int) + 1)) := by
    rw [hb.cell (p := ⟨D, id, none⟩) lD]; exact World.cell?_setCell_same' _ _ _ (by rw [d]; rfl)
  have s11 : w1.cell? ⟨S, id * 4 + 1, none⟩ = some (.map (some C)) := by
    rw [hb.cell (p := ⟨S, id * 4 + 1, none⟩) lS]; go_simp
  have hC1 : w1.heap[C]? = w.heap[C]? := by rw [hb.block C lC]; exact Below.heap_setCell _ _ _ _ hCD
  have l2 := L2 w1.drew hC1
  clear hown hgrow d s1 c7 c8 fD
  go_wp2
  go_region
  simp only [Exit.then]
  rw [rounds_succ]
  go_wp2
  go_ret
  exact ⟨⟨_, rfl⟩, hb.drew⟩
end Go.Proofs.Qxb6614570aFmt
