import Derived.RangeFuncCalls
import Derived.Sort.QuietIn
import Derived.OwnWalkIn
namespace Go.Proofs.Qxb6614570aFmt
open Go.RowKit

/-- no operation of the region is a defer statement -/
def noDefer (ops : Array Oper) : Bool := ops.all fun o => match o.op with | .defer _ => false | _ => true

theorem noDefer_spec {ops : Array Oper} (h : noDefer ops = true) {i : Nat} {o : Oper} (ho : ops[i]? = some o) : ∀ c, o.op ≠ .defer c := by
  intro c e
  have := Array.all_eq_true.1 h i (Array.getElem?_eq_some_iff.1 ho).1
  rw [(Array.getElem?_eq_some_iff.1 ho).2, e] at this
  cases this

theorem operIn_inRound {n : Nat} {P : Program} {Q : Exit → Act → World → Prop} {o : Oper} (l : Nat) (hd : ∀ c, o.op ≠ .defer c) {a : Act} {w : World} {K K' : Act → World → Prop} (hK : ∀ a w, K a w → K' a w)
    (h : o.wpIn Fence.wide n P a w K Q) : o.wpIn (Fence.wide.inRound l) n P a w K' Q := by
  have h := Oper.wpIn_mono hK h
  unfold Oper.wpIn at *
  refine ⟨h.1, ?_⟩
  have h := h.2
  rw [Oper.semAt_plain _ _ _ hd] at h ⊢
  generalize (execOp a.eval o).run P w = r at *
  cases r with
  | ok x w' => cases x <;> simp only [Oper.uponIn] at h ⊢ <;> exact h
  | halt x w' => cases x <;> simp only [Oper.uponIn] at h ⊢ <;> exact h

theorem anyIn_inRound {n : Nat} {P : Program} {Q : Exit → Act → World → Prop} {ops : Array Oper} {md : Region.Mode} (l : Nat) (hd : noDefer ops = true) :
    ∀ (fuel : Nat) (listed : Array Bool) (a : Act) (w : World), wpAnyIn Fence.wide n P md ops Q fuel listed a w → wpAnyIn (Fence.wide.inRound l) n P md ops Q fuel listed a w := by
  intro fuel
  induction fuel with
  | zero => intro listed a w h; exact h
  | succ fuel ih =>
    intro listed a w h
    refine ⟨h.1, fun i hi => ?_⟩
    have h2 := h.2 i hi
    unfold wpOpIn at *
    cases ho : ops[i]? with
    | none => simp only [ho] at h2 ⊢; exact ih _ _ _ h2
    | some o =>
      simp only [ho] at h2 ⊢
      split
      · rename_i hw
        simp only [hw, if_true] at h2
        exact operIn_inRound l (noDefer_spec hd ho) (fun a w => ih _ a w) h2
      · rename_i hw
        simp only [hw] at h2
        exact ⟨h2.1, ih _ _ _ h2.2⟩

/-- A REGION THAT DRAWS AND ONLY READS, IN A ROUND: one walk of the lexical order -/
theorem region_quiet_round {n : Nat} {P : Program} {id lr : Nat} {Q : Exit → Act → World → Prop} {a : Act} {w : World} {l : List Oper} (hm : P.follows .mixedOrders = true) (hB : Region.lexB .any l.toArray = true) (hd : noDefer l.toArray = true)
    (h : wpQuietIn Fence.wide n P l.toArray (fun w' => ∃ n, w' = w.drewN n) (fun a' => ∀ w', (∃ n, w' = w.drewN n) → Q .normal a' w') l a) : (Code.region id l.toArray true).wpIn (Fence.wide.inRound lr) n P Q a w := by
  simp only [Region.lexB, Bool.and_eq_true] at hB
  refine wpIn_region_any hm (anyIn_inRound lr hd _ _ _ _ (wpAnyIn_of_quiet (C := fun w' => ∃ n, w' = w.drewN n) (Q := fun a' => ∀ w', (∃ n, w' = w.drewN n) → Q .normal a' w') rfl (fun _ w' hw' h => h w' hw') _ _ _ _ ⟨1, rfl⟩ ?_))
  have := wpAnyQIn_lex (F := Fence.wide) (n := n) (C := fun w' => ∃ n, w' = w.drewN n) (md := .any) hB.1 l 0 (Array.replicate l.toArray.size false) a (by simp) (by simpa using hB.2) h
  simpa using this
end Go.Proofs.Qxb6614570aFmt
