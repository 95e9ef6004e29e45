import Derived.Test.Qxb6614570aFmtRelease
import Derived.Test.Qxb6614570aFmtNewZz
import Derived.Laws.CopyOwn
import Derived.Deep.DeepCutAuto
namespace Go.Proofs.Qxb6614570aFmt
open Go.RowKit
set_option linter.unusedVariables false

theorem Tryf.size40 : (Tryf.prog.info? 40).map (·.size) = some 1 := by kernel_rfl

/-- the slice at ao holds the n numbers S -/
def Nums (w : World) (ao : Option Addr) (n : Nat) (S : Nat → Nat) : Prop := ∀ i, i < n → S i ≤ 4294967295 ∧ ∃ b off, ao = some ⟨b, off, none⟩ ∧ w.cell? ⟨b, off + i, none⟩ = some (.int .u32 (S i : Int))

theorem Nums.later {w w' : World} {ao : Option Addr} {n : Nat} {S : Nat → Nat} (h : Nums w ao n S) (hb : Below w.heap.size w w') : Nums w' ao n S := by
  intro i hi
  obtain ⟨hm, b, off, e, hc⟩ := h i hi
  exact ⟨hm, b, off, e, (hb.cell (p := ⟨b, off + i, none⟩) (World.block_lt_of_cell? w _ hc)).trans hc⟩

/-- the numbers as cells -/
def cellsOf (n : Nat) (S : Nat → Nat) : List Value := (List.range n).map fun i => .int .u32 (S i : Int)
theorem cellsOf_length (n : Nat) (S : Nat → Nat) : (cellsOf n S).length = n := by simp [cellsOf]
theorem cellsOf_at {n : Nat} {S : Nat → Nat} {j : Nat} {u : Value} (h : (cellsOf n S)[j]? = some u) : j < n ∧ u = .int .u32 (S j : Int) := by
  obtain ⟨hj, e⟩ := List.getElem?_eq_some_iff.1 h
  simp [cellsOf] at hj e
  exact ⟨hj, e.symm⟩
theorem cellsOf_one (n : Nat) (S : Nat → Nat) : ∀ u ∈ cellsOf n S, u.oneCell' = true := by
  intro u hu
  obtain ⟨j, hj⟩ := List.getElem?_of_mem hu
  obtain ⟨_, rfl⟩ := cellsOf_at hj
  rfl
theorem Nums.src {w : World} {ao : Option Addr} {n : Nat} {S : Nat → Nat} (h : Nums w ao n S) : ∀ ad, ao = some ad → ∀ j u, (cellsOf n S)[j]? = some u → w.cell? (ad.add j) = some u := by
  intro ad e j u hu
  obtain ⟨hj, rfl⟩ := cellsOf_at hu
  obtain ⟨_, b, off, e', hc⟩ := h j hj
  obtain rfl : ad = ⟨b, off, none⟩ := by rw [e] at e'; exact Option.some.inj e'
  rw [Go.WideShapes.add_plain]
  exact hc
theorem splice_all {L cs : List Value} (h : L.length = cs.length) : splice L 0 cs = cs := by
  simp [splice, List.drop_of_length_le (Nat.le_of_eq h)]
theorem ownsRow_block {w : World} {base : Nat} {e : TypeId} {g n cap : Nat} {xs : List Value} (h : w.ownsRow base e 1 (.slice (some ⟨g, 0, none⟩) n cap) n xs) :
    ∃ cur : List Value, w.heap[g]? = some (.cells cur.toArray e (0, 0)) ∧ cur.length = cap ∧ base ≤ g := by
  rcases h.2 with ⟨h0, _⟩ | ⟨g', cap', cur, hv, hb, hg, _, _, hs, _⟩
  · simp at h0
  · simp only [Value.slice.injEq, Option.some.injEq, Addr.mk.injEq, and_true, true_and] at hv
    obtain ⟨rfl, rfl⟩ := hv
    exact ⟨cur.toList, by simpa using hg, by simpa using hs, hb⟩

/-- the number at id, or 0 where the slice is too short -/
def numAt (n : Nat) (S : Nat → Nat) (id : Nat) : Nat := if id < n then S id else 0

/-- what a slot holds behind 'if a != nil { zzc := make(..); copy(zzc, a); a = zzc }' -/
def Copied (w : World) (id n : Nat) (S : Nat → Nat) (s : Value) (wx : World) : Prop :=
  (∃ a1 c1, s = .slice a1 n c1) ∧ StableAt wx.heap.size wx id (numAt n S id) s ∧ Below w.heap.size w wx

theorem Copied.made {w w2 : World} {id n : Nat} {S : Nat → Nat} {cur : List Value} {g : Nat} (hN : ∀ i, i < n → S i ≤ 4294967295) (hl : cur.length = n) (h : Hid (w2.heap[g]? = some (.cells (splice cur 0 (cellsOf n S)).toArray 40 (0, 0)))) (hb : Below w.heap.size w w2) :
    Copied w id n S (.slice (some ⟨g, 0, none⟩) n n) w2 := by
  have h := h.out
  rw [splice_all (by rw [cellsOf_length, hl])] at h
  refine ⟨⟨_, _, rfl⟩, ?_, hb⟩
  by_cases hi : id < n
  · refine .long g n n hi (Array.getElem?_eq_some_iff.1 h).1 ?_ (by rw [numAt, if_pos hi]; exact hN id hi)
    simp [World.cell?, h, cellsOf, hi, numAt]
  · exact .short _ n n (by omega) (by simp [numAt, hi])

set_option maxHeartbeats 400000 in
/-- 'zzStableUpTo' -/
theorem upTo_any (B id k s : Nat) (a : Option Addr) (len cap : Nat) (w : World) (hid : id ≤ 65536) (hk : k ≤ 131072) (hl : len ≤ 65536) (hs : StableAt B w id s (.slice a len cap)) :
    Calls Tryf.prog 9 #[.slice a len cap, .int .i64 (id : Int), .int .i64 (k : Int)] w fun e w' => e = .returned (.int .i64 ((min s k : Nat) : Int)) ∧ w' = w := by
  obtain ⟨m, hm⟩ : ∃ m, Hid (m = min s k) := ⟨_, (rfl : min s k = min s k)⟩
  rw [← hm.out]
  cases hs with
  | short a len cap h1 h2 =>
    have hge : decide ((len : Int) ≤ (id : Int)) = true := by simp; omega
    have e0 : m = 0 := by rw [hm.out, h2]; simp
    subst e0
    go_enter Tryf.func9, Tryf.ntmps9
    go_wp2
    go_ret
    exact ⟨rfl, rfl⟩
  | long b len cap h1 h2 h3 h4 =>
    have hge : decide ((len : Int) ≤ (id : Int)) = false := by simp; omega
    have hlt : (id : Int) < (len : Int) := by omega
    rcases Nat.lt_or_ge k s with hks | hks
    · have hg : decide ((k : Int) < (s : Int)) = true := by simp; omega
      have e0 : m = k := by rw [hm.out]; omega
      subst e0
      go_enter Tryf.func9, Tryf.ntmps9
      go_wp2
      go_ret
      exact ⟨rfl, rfl⟩
    · have hg : decide ((k : Int) < (s : Int)) = false := by simp; omega
      have e0 : m = s := by rw [hm.out]; omega
      subst e0
      go_enter Tryf.func9, Tryf.ntmps9
      go_wp2
      go_ret
      exact ⟨rfl, rfl⟩

set_option maxHeartbeats 400000 in
theorem zz5_any (x0 x1 x2 x3 : Value) (a : Option Addr) (len cap : Nat) (w : World) (hl : len ≤ maxLen) :
    Calls Tryf.prog 5 #[x0, x1, x2, x3, .slice a len cap] w fun e w' => (∃ r : Bool, e = .returned (.bool r) ∧ (r = true → len ≤ 1048576)) ∧ w' = w := by
  unfold maxLen at hl
  by_cases h : len ≤ 1048576
  · have h1 : decide ((1048576 : Int) < (len : Int)) = false := by simp; omega
    go_enter Tryf.func5, Tryf.ntmps5
    go_wp2
    go_ret
    exact ⟨⟨_, rfl, fun _ => h⟩, rfl⟩
  · have h1 : decide ((1048576 : Int) < (len : Int)) = true := by simp; omega
    go_enter Tryf.func5, Tryf.ntmps5
    go_wp2
    go_ret
    exact ⟨⟨_, rfl, fun e => by cases e⟩, rfl⟩
end Go.Proofs.Qxb6614570aFmt
