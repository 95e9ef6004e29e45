import Derived.Test.Qxb6614570aFmtSet
import Derived.Deep.RegionLaw
namespace Go.Proofs.Qxb6614570aFmt
open Go.RowKit
set_option linter.unusedVariables false

theorem Tryf.info40 : (Tryf.prog.info? 40).map (fun i => (i.zero, i.size, i.bytes)) = some (some (.int .u32 0), 1, 4) := by kernel_rfl
theorem Tryf.info61 : (Tryf.prog.info? 61).map (fun i => (i.zero, i.size, i.bytes)) = some (some (.agg #[.int .u32 0, .map none, .int .i64 0, .bool false]), 4, 32) := by kernel_rfl
theorem Tryf.info54 : (Tryf.prog.info? 54).map (fun i => (i.zero, i.size, i.bytes)) = some (some (.int .u64 0), 1, 8) := by kernel_rfl

/-- a new row of m zero elements and spare room -/
def zeroRow (z : Array Value) (m c : Nat) : Array Value := Builtin.zeroCells z m ++ Builtin.zeroCells z (c - m)

theorem zapp (t e : TypeId) (z : Value) (sz by' : Nat) (ht : Tryf.prog.underlying t = some (.slice e)) (hi : (Tryf.prog.info? e).map (fun i => (i.zero, i.size, i.bytes)) = some (some z, sz, by')) (hs : 0 < sz) (hb : by' ≤ 32) (m : Nat) (h0 : 0 < m) (hm : m ≤ 65536) (W : World) :
    (Builtin.append_ #[t, 3] t #[.slice none 0 0, .int .i64 (m : Int)]).run Tryf.prog W =
      .ok (.slice (some ⟨W.heap.size, 0, none⟩) m (grownCap W m 0 e)) (W.drew.alloc (.cells (zeroRow z.cells m (grownCap W m 0 e)) e)) := by
  obtain ⟨i, h1, h2, h3, h4⟩ := info_parts hi
  exact run_append_zeros W t 3 t e i z .i64 ht Tryf.underlying3 h1 h2 m h0 (by omega) (by omega) (by rw [h4]; have := Nat.mul_le_mul hm hb; omega)

/-- the same, its capacity left open -/
theorem zapp' (t e : TypeId) (z : Value) (sz by' : Nat) (ht : Tryf.prog.underlying t = some (.slice e)) (hi : (Tryf.prog.info? e).map (fun i => (i.zero, i.size, i.bytes)) = some (some z, sz, by')) (hs : 0 < sz) (hb : by' ≤ 32) (ty : TypeId) (m : Nat) (h0 : 0 < m) (hm : m ≤ 65536) (W : World) :
    ∃ c, m ≤ c ∧ (Builtin.append_ #[t, 3] ty #[.slice none 0 0, .int .i64 (m : Int)]).run Tryf.prog W =
      .ok (.slice (some ⟨W.heap.size, 0, none⟩) m c) (W.alloc (.cells (zeroRow z.cells m c) e)).drew := by
  obtain ⟨i, h1, h2, h3, h4⟩ := info_parts hi
  exact ⟨_, grownCap_ge W m 0 e, run_append_zeros W t 3 ty e i z .i64 ht Tryf.underlying3 h1 h2 m h0 (by omega) (by omega) (by rw [h4]; have := Nat.mul_le_mul hm hb; omega)⟩

theorem wpList_zeros (w : World) {ops : Array Oper} {rest : List Oper} {o : Oper} {a : Act} {Q : Exit → Act → World → Prop} (hg : o.guard = none) (s x : Operand) (t : TypeId)
    (hop : o.op = Op.call { callee := Callee.builtin Builtin.append, args := #[s, x], argTypes := #[t, 3] }) (e : TypeId) (z : Value) (sz by' : Nat)
    (ht : Tryf.prog.underlying t = some (.slice e)) (hi : (Tryf.prog.info? e).map (fun i => (i.zero, i.size, i.bytes)) = some (some z, sz, by')) (hs : 0 < sz) (hb : by' ≤ 32) (m : Nat) (h0 : 0 < m) (hm : m ≤ 65536) (M : Int) (hM : M = (m : Int))
    (es : a.eval s = .slice none 0 0) (ex : a.eval x = .int .i64 M)
    (hK : ∀ c, m ≤ c → wpList Tryf.prog ops Q rest (a.put o.dst (.slice (some ⟨w.heap.size, 0, none⟩) m c)) (w.alloc (.cells (zeroRow z.cells m c) e)).drew) : wpList Tryf.prog ops Q (o :: rest) a w := by
  refine wpList_plain hg fun K' hK' => ?_
  subst hM
  obtain ⟨c, hc, hrun⟩ := zapp' t e z sz by' ht hi hs hb o.type m h0 hm w
  unfold Oper.wp
  simp [execOp, hop, resolve, invoke, builtin, es, ex, hrun, Result.andThen]
  exact hK' _ _ (hK c hc)

theorem step_zeros {ops : Array Oper} {o : Oper} {a : Act} {w : World} {K : Act → World → Prop} {Q : Exit → Act → World → Prop} {E : Prop} (hg : o.guard = none) (s x : Operand) (t : TypeId)
    (hop : o.op = Op.call { callee := Callee.builtin Builtin.append, args := #[s, x], argTypes := #[t, 3] }) (e : TypeId) (z : Value) (sz by' : Nat)
    (ht : Tryf.prog.underlying t = some (.slice e)) (hi : (Tryf.prog.info? e).map (fun i => (i.zero, i.size, i.bytes)) = some (some z, sz, by')) (hs : 0 < sz) (hb : by' ≤ 32) (m : Nat) (h0 : 0 < m) (hm : m ≤ 65536) (M : Int) (hM : M = (m : Int))
    (es : a.eval s = .slice none 0 0) (ex : a.eval x = .int .i64 M)
    (hK : ∀ c, m ≤ c → K (a.put o.dst (.slice (some ⟨w.heap.size, 0, none⟩) m c)) (w.alloc (.cells (zeroRow z.cells m c) e)).drew) :
    if Region.wanted o (yielded ops a.tmps) = true then Oper.wp Tryf.prog o a w K Q else E := by
  have hw : Region.wanted o (yielded ops a.tmps) = true := by simp [Region.wanted, hg]
  rw [if_pos hw]
  subst hM
  obtain ⟨c, hc, hrun⟩ := zapp' t e z sz by' ht hi hs hb o.type m h0 hm w
  unfold Oper.wp
  simp [execOp, hop, resolve, invoke, builtin, es, ex, hrun, Result.andThen]
  exact hK c hc

theorem wraps (n : Nat) (hn : n ≤ 65536) : IntKind.i64.wrap (IntKind.i64.wrap ((IntKind.i64.wrap ((n : Int) + 63)).tdiv 64)) = (((n + 63) / 64 : Nat) : Int) := by
  have e1 : IntKind.i64.wrap ((n : Int) + 63) = (n : Int) + 63 := by rw [IntKind.wrap_i64]; omega
  rw [e1, Int.tdiv_eq_ediv_of_nonneg (by omega)]
  have e2 : IntKind.i64.wrap (((n : Int) + 63) / 64) = ((n : Int) + 63) / 64 := by rw [IntKind.wrap_i64]; omega
  rw [e2, e2]
  omega

/-- the world behind 'fit', but for the draws -/
def fitted (w : World) (M n cd cs ch : Nat) : World :=
  (((((((w.setCell ⟨M, 0, none⟩ (.int .i64 (n : Int))).setCell ⟨M, 7, none⟩ (.slice (some ⟨w.heap.size, 0, none⟩) n cd)).setCell ⟨M, 8, none⟩ (.slice (some ⟨w.heap.size + 1, 0, none⟩) n cs)).setCell ⟨M, 9, none⟩ (.slice (some ⟨w.heap.size + 1 + 1, 0, none⟩) ((n + 63) / 64) ch)).alloc
    (.cells (zeroRow #[.int .u32 0] n cd) 40)).alloc (.cells (zeroRow #[.int .u32 0, .map none, .int .i64 0, .bool false] n cs) 61)).alloc (.cells (zeroRow #[.int .u64 0] ((n + 63) / 64) ch) 54))

def Fitted (w : World) (M n : Nat) (e : Ending) (w' : World) : Prop :=
  e = .returned (.tuple #[]) ∧ ∃ cd cs ch, n ≤ cd ∧ n ≤ cs ∧ (n + 63) / 64 ≤ ch ∧ w' = (fitted w M n cd cs ch).drew.drew.drew.drew

set_option maxHeartbeats 1000000 in
set_option maxRecDepth 100000 in
theorem fit_any (M n : Nat) (w : World) (h0 : 0 < n) (hn : n ≤ 65536) (lM : M < w.heap.size) (fM : ∀ j, w.frozen? ⟨M, j, none⟩ = false)
    (c0 : w.cell? ⟨M, 0, none⟩ = some (.int .i64 0)) (c7 : w.cell? ⟨M, 7, none⟩ = some (.slice none 0 0)) (c8 : w.cell? ⟨M, 8, none⟩ = some (.slice none 0 0)) (c9 : w.cell? ⟨M, 9, none⟩ = some (.slice none 0 0)) :
    Calls Tryf.prog 26 #[.pointer (some ⟨M, 0, none⟩), .int .i64 (n : Int)] w fun e w' => Fitted w M n e w' := by
  have lM1 : M < w.heap.size + 1 := by omega
  have lM2 : M < w.heap.size + 1 + 1 := by omega
  have lM3 : M < w.heap.size + 1 + 1 + 1 := by omega
  go_enter Tryf.func26, Tryf.ntmps26
  go_wp2_with (first | (at_builtin; refine wpList_zeros _ rfl (.tmp 21) (.tmp 22) 34 rfl 40 _ 1 4 Tryf.underlying34 Tryf.info40 (by omega) (by omega) n h0 hn _ rfl rfl rfl ?_; intro cd hcd) | (at_builtin; refine wpList_zeros _ rfl (.tmp 30) (.tmp 31) 44 rfl 61 _ 4 32 Tryf.underlying44 Tryf.info61 (by omega) (by omega) n h0 hn _ rfl rfl rfl ?_; intro cs hcs))
  go_region_law (refine step_zeros rfl (.tmp 39) (.tmp 48) 46 rfl 54 _ 1 8 Tryf.underlying46 Tryf.info54 (by omega) (by omega) ((n + 63) / 64) (by omega) (by omega) (IntKind.i64.wrap (IntKind.i64.wrap ((IntKind.i64.wrap ((n : Int) + 63)).tdiv 64))) (wraps n hn) (by simp [Act.eval, Act.put]) (by simp [Act.eval, Act.put]) ?_; intro ch hch)
  all_goals
    go_end0
    exact ⟨rfl, cd, cs, ch, hcd, hcs, hch, rfl⟩

theorem zeroRow_at (z : Array Value) (m c i : Nat) (h : i < m * z.size) : (zeroRow z m c)[i]? = some (z[i % z.size]!) := by
  unfold zeroRow
  rw [Array.getElem?_append_left (by simp [Builtin.zeroCells, h]), zeroCells_at z m i h]

/-- where a new Multicast lies -/
def newLay (w : World) (id n cd cs ch : Nat) : Lay :=
  { B := w.heap.size, M := w.heap.size + 1, D := w.heap.size + 1 + 1, S := w.heap.size + 1 + 1 + 1, H := w.heap.size + 1 + 1 + 1 + 1, id := id, n := n, nh := (n + 63) / 64, cd := cd, cs := cs, ch := ch }

theorem newLay_ok (w : World) (id n cd cs ch : Nat) (h0 : id < n) (hn : n ≤ 65536) (h1 : n ≤ cd) (h2 : n ≤ cs) (h3 : (n + 63) / 64 ≤ ch) : (newLay w id n cd cs ch).Ok := by
  constructor <;> simp only [newLay] <;> omega

/-- the two blocks that newMulticast boxes -/
abbrev twoNew (w : World) (id n : Nat) (ask : Int) : World :=
  (w.alloc (.cells #[.int .i64 (n : Int), .int .u32 0] 42)).alloc (.cells #[.int .i64 0, .int .u32 0, .int .i64 (id : Int), .int .i64 ask, .func (.func 13) #[] #[], .int .i64 0, .nilFunc, .slice none 0 0, .slice none 0 0, .slice none 0 0] 48)

theorem MC.new (w : World) (id n cd cs ch : Nat) (ask : Int) (h0 : id < n) (hn : n ≤ 65536) :
    MC (newLay w id n cd cs ch) (fitted (twoNew w id n ask) (w.heap.size + 1) n cd cs ch).drew.drew.drew.drew none 0 0 0 ∧ Below w.heap.size w (fitted (twoNew w id n ask) (w.heap.size + 1) n cd cs ch).drew.drew.drew.drew := by
  have hs4 : ((id * 4) % 4) = 0 := by omega
  have hs5 : ((id * 4 + 1) % 4) = 1 := by omega
  refine ⟨⟨?_, ?_, ?_, ?_, ?_, ?_, ?_, ?_, ?_, ?_, ?_, ?_, ?_, ?_, ?_, ?_, ?_, ?_, ?_, ?_, ?_, ?_, ?_, ?_, ?_⟩, ?_⟩
  all_goals try simp only [newLay, fitted, twoNew]
  all_goals try (go_simp; done)
  case refine_15 =>
    have z := zeroRow_at #[.int .u32 0] n cd id (by simpa using h0)
    go_simp
    simp [Nat.mod_one]
  case refine_17 =>
    have z := zeroRow_at #[.int .u32 0, .map none, .int .i64 0, .bool false] n cs (id * 4) (by simp; omega)
    go_simp
  case refine_18 =>
    have z := zeroRow_at #[.int .u32 0, .map none, .int .i64 0, .bool false] n cs (id * 4 + 1) (by simp; omega)
    go_simp
  case refine_20 =>
    intro j hj
    have z := zeroRow_at #[.int .u64 0] ((n + 63) / 64) ch j (by simpa using hj)
    go_simp
    simp [Nat.mod_one, word]
  case refine_26 =>
    refine Below.drew (Below.drew (Below.drew (Below.drew (Below.alloc (Below.alloc (Below.alloc (Below.setCell (Below.setCell (Below.setCell (Below.setCell (((Below.refl _ w).alloc (Nat.le_refl _) _).alloc (by simp) _) ?_ _) ?_ _) ?_ _) ?_ _) ?_ _) ?_ _) ?_ _))))
    all_goals simp <;> omega
end Go.Proofs.Qxb6614570aFmt
