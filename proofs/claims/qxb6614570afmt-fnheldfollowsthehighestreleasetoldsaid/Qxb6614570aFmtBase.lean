import Derived.Test.Qxb6614570aFmtProg
import Derived.WalkKit
import Derived.WalkSpells
import Derived.Maps.OwnSet
namespace Go.Proofs.Qxb6614570aFmt
open Go.RowKit

/-- 'append(nil, make([]T, m)...)': one builtin, its second argument the count: m zero elements and spare room -/
theorem run_append_zeros {P : Program} (w : World) (t u ty e : TypeId) (i : TypeInfo) (z : Value) (q : IntKind) (ht : P.underlying t = some (.slice e)) (hu : P.underlying u = some (.int q)) (hi : P.info? e = some i) (hz : i.zero = some z)
    (m : Nat) (h0 : 0 < m) (hs : 0 < i.size) (h63 : m ≤ 9223372036854775807) (h48 : m * i.bytes ≤ 281474976710656) :
    (Builtin.append_ #[t, u] ty #[.slice none 0 0, .int .i64 (m : Int)]).run P w =
      .ok (.slice (some ⟨w.heap.size, 0, none⟩) m (grownCap w m 0 e)) (w.drew.alloc (.cells (Builtin.zeroCells z.cells m ++ Builtin.zeroCells z.cells (grownCap w m 0 e - m)) e)) := by
  have hn : m ≠ 0 := by omega
  have hw : IntKind.i64.wrap (m : Int) = m := by rw [IntKind.wrap_i64]; omega
  have h63' : ¬ (9223372036854775807 < (m : Int)) := by omega
  have h48c : ((m * i.bytes : Nat) : Int) ≤ 281474976710656 := by omega
  rw [Int.natCast_mul] at h48c
  have h48a : ¬ (281474976710656 < (m : Int) * i.bytes) := by omega
  have hlt : ¬ ((m : Int) < 0) := by omega
  have h48' : ¬ (281474976710656 < Builtin.nextslicecap m 0 * i.bytes) := by rw [nextslicecap_zero h0]; omega
  have hle : ¬ ((m : Int) ≤ 0) := by omega
  have hsz : ¬ i.size = 0 := by omega
  simp [Builtin.append_, run_underlying ht, run_underlying hu, sizeOf, typeInfo, zeroValue, hi, hz, asInt, asIntOf, hn, hw, hlt, h63', h48', h48a, Question.forced, run_firstCells_none, newRow, grownCap]
  intro h
  exact absurd h (Nat.mul_ne_zero hn hsz)

theorem zeroCells_at (z : Array Value) (m i : Nat) (h : i < m * z.size) : (Builtin.zeroCells z m)[i]? = some (z[i % z.size]!) := by
  simp [Builtin.zeroCells, h]

/-- where a Multicast lies: its own block M, the arrays of delivered (D), senders (S), holding (H); B: the first block that is the call's own -/
structure Lay where
  B : Nat
  M : Nat
  D : Nat
  S : Nat
  H : Nat
  id : Nat
  n : Nat
  nh : Nat
  cd : Nat
  cs : Nat
  ch : Nat

structure Lay.Ok (L : Lay) : Prop where
  bM : L.B ≤ L.M
  bD : L.B ≤ L.D
  bS : L.B ≤ L.S
  bH : L.B ≤ L.H
  MD : L.M ≠ L.D
  MS : L.M ≠ L.S
  MH : L.M ≠ L.H
  DS : L.D ≠ L.S
  DH : L.D ≠ L.H
  SH : L.S ≠ L.H
  idn : L.id < L.n
  small : L.n ≤ 65536
  words : L.nh = (L.n + 63) / 64
  capD : L.n ≤ L.cd
  capS : L.n ≤ L.cs
  capH : L.nh ≤ L.ch

/-- the set {id} or the empty one, word by word -/
def word (id : Nat) (some : Bool) (j : Nat) : Int := if j = id / 64 ∧ some = true then 2 ^ (id % 64) else 0

/-- how an element of 'copies' reads: is it nil? -/
def ptrElem (v : Value) : Option (DataW Unit × List MemPlace) :=
  match v with
  | .pointer (some _) => some (.lit (.bool true), [])
  | .pointer none => some (.lit (.bool false), [])
  | _ => none

/-- block C is a map that holds just the keys r+1 .. k, none of them nil -/
def MapI (w : World) (C k r : Nat) : Prop :=
  ∃ (D : DataW Unit) (m : Nat), w.ownsMap Tryf.prog 40 ptrElem C m D ∧ m ≤ k ∧ Maps.Tidy D ∧ (∀ i : Nat, Maps.has D (.int .u32 i) = decide (r < i ∧ i ≤ k)) ∧
    (∀ (i : Nat) z, r < i → i ≤ k → D.atKey (.int .u32 i) z = .lit (.bool true)) ∧ Maps.size D = k - r

/-- THE STATE OF A MULTICAST THAT HAS SENT k MESSAGES: it holds the copies r+1 .. k; 'released' says rel -/
structure MC (L : Lay) (w : World) (cm : Option Nat) (k r rel : Nat) : Prop where
  lM : L.M < w.heap.size
  lD : L.D < w.heap.size
  lS : L.S < w.heap.size
  lH : L.H < w.heap.size
  c0 : w.cell? ⟨L.M, 0, none⟩ = some (.int .i64 (L.n : Int))
  c1 : w.cell? ⟨L.M, 1, none⟩ = some (.int .u32 0)
  c2 : w.cell? ⟨L.M, 2, none⟩ = some (.int .i64 (L.id : Int))
  c4 : w.cell? ⟨L.M, 4, none⟩ = some (.func (.func 13) #[] #[])
  c5 : w.cell? ⟨L.M, 5, none⟩ = some (.int .i64 ((k : Int) - r))
  c6 : w.cell? ⟨L.M, 6, none⟩ = some .nilFunc
  c7 : w.cell? ⟨L.M, 7, none⟩ = some (.slice (some ⟨L.D, 0, none⟩) L.n L.cd)
  c8 : w.cell? ⟨L.M, 8, none⟩ = some (.slice (some ⟨L.S, 0, none⟩) L.n L.cs)
  c9 : w.cell? ⟨L.M, 9, none⟩ = some (.slice (some ⟨L.H, 0, none⟩) L.nh L.ch)
  fM : ∀ j, w.frozen? ⟨L.M, j, none⟩ = false
  d : w.cell? ⟨L.D, L.id, none⟩ = some (.int .u32 (k : Int))
  fD : ∀ j, w.frozen? ⟨L.D, j, none⟩ = false
  s0 : w.cell? ⟨L.S, L.id * 4, none⟩ = some (.int .u32 (rel : Int))
  s1 : w.cell? ⟨L.S, L.id * 4 + 1, none⟩ = some (.map cm)
  fS : ∀ j, w.frozen? ⟨L.S, j, none⟩ = false
  h : ∀ j, j < L.nh → w.cell? ⟨L.H, j, none⟩ = some (.int .u64 (word L.id (decide (r < k)) j))
  fH : ∀ j, w.frozen? ⟨L.H, j, none⟩ = false
  rk : r ≤ k
  kk : k ≤ 131072
  map0 : cm = none → k = 0
  mapC : ∀ C, cm = some C → L.B ≤ C ∧ C ≠ L.M ∧ C ≠ L.D ∧ C ≠ L.S ∧ C ≠ L.H ∧ MapI w C k r
end Go.Proofs.Qxb6614570aFmt
