import Derived.Test.Qxb6615944aKnown
import Derived.Laws.CopyOwn
import Derived.Deep.DeepCutAuto
namespace Go.Proofs.Qxb6615944a
open Go.RowKit

theorem Try.info9 : (Try.prog.info? 9).map (fun i => (i.zero, i.size, i.bytes)) = some (some (.string ⟨#[]⟩), 1, 16) := by kernel_rfl
theorem Try.size9 : (Try.prog.info? 9).map (·.size) = some 1 := by kernel_rfl

theorem Strs.later {w w' : World} {ao : Option Addr} {n : Nat} {S : Nat → ByteArray} (h : Strs w ao n S) (hb : Below w.heap.size w w') : Strs w' ao n S := by
  intro i hi
  obtain ⟨b, off, e, hc⟩ := h i hi
  exact ⟨b, off, e, (hb.cell (p := ⟨b, off + i, none⟩) (World.block_lt_of_cell? w _ hc)).trans hc⟩

/-- the strings as cells -/
def cellsOf (n : Nat) (S : Nat → ByteArray) : List Value := (List.range n).map fun i => .string (S i)
theorem cellsOf_length (n : Nat) (S : Nat → ByteArray) : (cellsOf n S).length = n := by simp [cellsOf]
theorem cellsOf_at {n : Nat} {S : Nat → ByteArray} {j : Nat} {u : Value} (h : (cellsOf n S)[j]? = some u) : j < n ∧ u = .string (S j) := by
  obtain ⟨hj, e⟩ := List.getElem?_eq_some_iff.1 h
  simp [cellsOf] at hj e
  exact ⟨hj, e.symm⟩
theorem cellsOf_one (n : Nat) (S : Nat → ByteArray) : ∀ u ∈ cellsOf n S, u.oneCell' = true := by
  intro u hu
  obtain ⟨j, hj⟩ := List.getElem?_of_mem hu
  obtain ⟨_, rfl⟩ := cellsOf_at hj
  rfl
/-- the source of a copy or an append -/
theorem Strs.src {w : World} {ao : Option Addr} {n : Nat} {S : Nat → ByteArray} (h : Strs w ao n S) : ∀ ad, ao = some ad → ∀ j u, (cellsOf n S)[j]? = some u → w.cell? (ad.add j) = some u := by
  intro ad e j u hu
  obtain ⟨hj, rfl⟩ := cellsOf_at hu
  obtain ⟨b, off, e', hc⟩ := h j hj
  obtain rfl : ad = ⟨b, off, none⟩ := by rw [e] at e'; exact Option.some.inj e'
  rw [Go.WideShapes.add_plain]
  exact hc
theorem Strs.addr {w : World} {ao : Option Addr} {n : Nat} {S : Nat → ByteArray} (h : Strs w ao n S) (h0 : 0 < n) : ∃ ad, ao = some ad := by
  obtain ⟨b, off, e, _⟩ := h 0 h0
  exact ⟨_, e⟩
/-- a row that holds the strings can be read as a slice of them -/
theorem Strs.ofBlock {w : World} {g n : Nat} {S : Nat → ByteArray} {t : TypeId} {L : List Value} (h : w.heap[g]? = some (.cells L.toArray t (0, 0))) (hL : L = cellsOf n S) : Strs w (some ⟨g, 0, none⟩) n S := by
  intro i hi
  refine ⟨g, 0, rfl, ?_⟩
  subst hL
  simp [World.cell?, h, cellsOf, hi]
theorem splice_all {L cs : List Value} (h : L.length = cs.length) : splice L 0 cs = cs := by
  simp [splice, List.drop_of_length_le (Nat.le_of_eq h)]
theorem ownsRow_block {w : World} {base : Nat} {e : TypeId} {g n cap : Nat} {xs : List Value} (h : w.ownsRow base e 1 (.slice (some ⟨g, 0, none⟩) n cap) n xs) :
    ∃ cur : List Value, w.heap[g]? = some (.cells cur.toArray e (0, 0)) ∧ cur.length = cap ∧ base ≤ g := by
  rcases h.2 with ⟨h0, _⟩ | ⟨g', cap', cur, hv, hb, hg, _, _, hs, _⟩
  · simp at h0
  · simp only [Value.slice.injEq, Option.some.injEq, Addr.mk.injEq, and_true, true_and] at hv
    obtain ⟨rfl, rfl⟩ := hv
    exact ⟨cur.toList, by simpa using hg, by simpa using hs, hb⟩

/-- the plain law: what is known to a joined list -/
theorem knw_ways (na nb : Nat) (v : Int) :
    (¬ (na : Int) ≤ v ∧ knw (na + nb) v = false ∧ knw na v = false) ∨ (¬ (na : Int) ≤ v ∧ knw (na + nb) v = true ∧ knw na v = true) ∨
    ((na : Int) ≤ v ∧ knw (na + nb) v = true ∧ knw na v = false ∧ knw nb (v - na) = true) ∨ ((na : Int) ≤ v ∧ knw (na + nb) v = false ∧ knw na v = false ∧ knw nb (v - na) = false) := by
  simp only [knw, Bool.and_eq_true, Bool.and_eq_false_iff, decide_eq_true_eq, decide_eq_false_iff_not]
  omega
theorem knw_last (na nb : Nat) : (0 < (na : Int) + nb ∧ knw (na + nb) ((na : Int) + nb - 1) = true) ∨ (decide (0 < (na : Int) + nb) = false ∧ knw (na + nb) ((na : Int) + nb - 1) = false) := by
  simp only [knw, Bool.and_eq_true, Bool.and_eq_false_iff, decide_eq_true_eq, decide_eq_false_iff_not]
  omega
theorem knw_end (na nb : Nat) : knw (na + nb) ((na : Int) + nb) = false := by
  simp only [knw, Bool.and_eq_false_iff, decide_eq_false_iff_not]
  omega

/-- what a slot holds behind 'if a != nil { zzc := make(..); copy(zzc, a); a = zzc }' -/
def Copied (w : World) (n : Nat) (S : Nat → ByteArray) (s : Value) (wx : World) : Prop :=
  ∃ a1 c1, s = .slice a1 n c1 ∧ Strs wx a1 n S ∧ (a1 = none → n = 0 ∧ c1 = 0) ∧ Below w.heap.size w wx

theorem Copied.made {w w2 : World} {n : Nat} {S : Nat → ByteArray} {cur : List Value} {g : Nat} (hl : cur.length = n) (h : Hid (w2.heap[g]? = some (.cells (splice cur 0 (cellsOf n S)).toArray 9 (0, 0)))) (hb : Below w.heap.size w w2) :
    Copied w n S (.slice (some ⟨g, 0, none⟩) n n) w2 :=
  ⟨_, _, rfl, Strs.ofBlock h.out (splice_all (by rw [cellsOf_length, hl])), fun e => by simp at e, hb⟩

set_option maxHeartbeats 2000000 in
set_option maxRecDepth 100000 in
theorem join_any (kd : ByteArray) (ao : Option Addr) (na ca : Nat) (S : Nat → ByteArray) (bo : Option Addr) (nb cb : Nat) (T : Nat → ByteArray) (v : Int) (w : World) (hv : v ≤ 9223372036854775807)
    (hk : kd.size ≤ maxLen) (ha : na ≤ maxLen) (hb : nb ≤ maxLen) (hS : Strs w ao na S) (hT : Strs w bo nb T) (hSm : ∀ i, i < na → (S i).size ≤ maxLen) (hTm : ∀ i, i < nb → (T i).size ≤ maxLen)
    (hao : ao = none → na = 0 ∧ ca = 0) (hbo : bo = none → nb = 0 ∧ cb = 0)
    (k1 : (kd.size : Int) ≤ 65536) (k2 : (na : Int) ≤ 65536) (k3 : (nb : Int) ≤ 65536) :
    Calls Try.prog 5 #[.string kd, .slice ao na ca, .slice bo nb cb, .int .i64 v] w
      fun e w' => e = .returned (.bool true) ∧ Below w.heap.size w w' := by
  have q24 : ∀ (w : World) (a : Option Addr) (n c n' c' : Nat), (binOp .neq 24 (.slice a n c) (.slice none n' c')).run Try.prog w = .ok (.bool (!a.isNone)) w := fun w a n c n' c' => run_neq_slice_nil_any w _ _ a n c n' c' Try.underlying24
  obtain ⟨i0, hi, hz0, hz1, hz2⟩ := info_parts Try.info9
  have Z := zzJoin_any kd ao na ca S bo nb cb T v w hk ha hb hS hT hSm hTm
  unfold maxLen at hk ha hb
  clear hSm hTm
  go_enter Try.func5, Try.ntmps5
  go_upto_if 37 with (go_at_call 8; refine Z.mono ?_; rintro e w' ⟨r, rfl, hw, hr⟩; have hw2 := hw.symm; clear hw; subst hw2)
  · go_ret
    exact ⟨rfl, Below.refl _ _⟩
  have hr0 : (!r) = false := by assumption
  have hr1 : r = true := by simpa using hr0
  have HS : Hid (∀ i, i < na → (S i).size ≤ 1048576) := (hr hr1).1
  have HT : Hid (∀ i, i < nb → (T i).size ≤ 1048576) := (hr hr1).2
  clear hr0 hr1
  clear hr Z
  go_cut [1] (fun s wx => Copied w na S s wx)
  case first =>
    cases ao with
    | none =>
      obtain ⟨rfl, rfl⟩ := hao rfl
      clear hao
      go_wp2
      go_meet
      case rel => exact ⟨_, _, rfl, hS, fun _ => ⟨rfl, rfl⟩, Below.refl _ _⟩
    | some ad =>
      clear hao
      go_wp2_with (at_make; refine wpList_make_full _ rfl _ _ 24 rfl w.heap.size 9 i0 _ 1 Try.underlying24 hi hz0 hz1 .i64 .i64 _ _ na rfl rfl rfl rfl ?_ ?_ (Nat.le_refl _) ?_)
      · rw [hz2]; omega
      · unfold maxLen; omega
      intro w1 hown1 hgrow1
      obtain ⟨cur, hg1, hlen1, hle1⟩ := ownsRow_block hown1
      have hb1 : Below w.heap.size w w1 := (Below.refl _ _).grown hgrow1 (Nat.le_refl _) (fun k e => by cases e)
      have hS1 := hS.later hb1
      clear hown1 hgrow1
      have HL : Hid (cur.length = na) := hlen1
      clear hlen1
      go_wp2_with (refine wpList_copy_splice rfl (.tmp 41) (.tmp 42) 24 24 rfl 9 Try.underlying24 Try.size9 _ _ _ _ _ _ rfl rfl w.heap.size 0 cur 9 hg1 (cellsOf na S) ?_ (fun _ => ⟨rfl, ad, rfl, hS1.src ad rfl⟩) ?_ (cellsOf_one na S) w.heap.size w hb1 (Nat.le_refl _) ?_)
      · rw [cellsOf_length]; exact (Nat.min_self na).symm
      · rw [cellsOf_length, HL.out]; omega
      intro w2 hg2 hb2
      have R := Copied.made HL.out hg2 hb2
      clear hg1 hg2 hb1 hS1
      go_wp2
      go_meet
      case rel => exact R
  case rest =>
  obtain ⟨a1, c1, rfl, hS1, hao1, hb1⟩ := hcut
  rename World => wA
  have hT1 := hT.later hb1
  clear hS hT
  go_upto_if 46 with fail
  go_cut [2] (fun s wx => Copied wA nb T s wx)
  case first =>
    cases bo with
    | none =>
      obtain ⟨rfl, rfl⟩ := hbo rfl
      clear hbo
      go_wp2
      go_meet
      case rel => exact ⟨_, _, rfl, hT1, fun _ => ⟨rfl, rfl⟩, Below.refl _ _⟩
    | some ad =>
      clear hbo
      go_wp2_with (at_make; refine wpList_make_full _ rfl _ _ 24 rfl wA.heap.size 9 i0 _ 1 Try.underlying24 hi hz0 hz1 .i64 .i64 _ _ nb rfl rfl rfl rfl ?_ ?_ (Nat.le_refl _) ?_)
      · rw [hz2]; omega
      · unfold maxLen; omega
      intro w1 hown1 hgrow1
      obtain ⟨cur, hg1, hlen1, hle1⟩ := ownsRow_block hown1
      have hb2 : Below wA.heap.size wA w1 := (Below.refl _ _).grown hgrow1 (Nat.le_refl _) (fun k e => by cases e)
      have hS2 := hT1.later hb2
      clear hown1 hgrow1
      have HL : Hid (cur.length = nb) := hlen1
      clear hlen1
      go_wp2_with (refine wpList_copy_splice rfl (.tmp 50) (.tmp 51) 24 24 rfl 9 Try.underlying24 Try.size9 _ _ _ _ _ _ rfl rfl wA.heap.size 0 cur 9 hg1 (cellsOf nb T) ?_ (fun _ => ⟨rfl, ad, rfl, hS2.src ad rfl⟩) ?_ (cellsOf_one nb T) wA.heap.size wA hb2 (Nat.le_refl _) ?_)
      · rw [cellsOf_length]; exact (Nat.min_self nb).symm
      · rw [cellsOf_length, HL.out]; omega
      intro w2 hg2 hb3
      have R := Copied.made HL.out hg2 hb3
      clear hg1 hg2 hb2 hS2
      go_wp2
      go_meet
      case rel => exact R
  case rest =>
  obtain ⟨b1, d1, rfl, hT2, hbo1, hb2⟩ := hcut
  rename World => wB
  have hS2 := hS1.later hb2
  have hbB : Below w.heap.size w wB := hb1.trans (hb2.mono hb1.size)
  clear hS1 hT1 hb1 hb2
  have C1 := fun (t : Int) h0 h1 => bytes_any t a1 na c1 S wB h0 h1 (by omega) hS2 HS.out
  have C2 := fun (t : Int) h0 h1 => bytes_any t b1 nb d1 T wB h0 h1 (by omega) hT2 HT.out
  have k4 : (0 : Int) ≤ kd.size := by omega
  go_wp2_with (first | (go_at_call 9; refine (C1 _ k4 (by omega)).mono ?_; rintro e w' ⟨x1, rfl, hx1, hw⟩; have hw2 := hw.symm; clear hw; subst hw2; clear C1) | (go_at_call 9; refine (C2 x1 hx1 (by omega)).mono ?_; rintro e w' ⟨x2, rfl, hx2, hw⟩; have hw2 := hw.symm; clear hw; subst hw2; clear C2) | (at_make; refine wpList_make_own _ rfl _ _ 24 rfl wB.heap.size 9 i0 _ 1 Try.underlying24 hi hz0 hz1 .i64 .i64 _ (na + nb) rfl rfl (by omega) ?m1 ?m2 (Nat.le_refl _) ?m3))
  · go_ret
    exact ⟨rfl, hbB⟩
  · go_ret
    exact ⟨rfl, hbB⟩
  case m1 => rw [hz2]; omega
  case m2 => unfold maxLen; omega
  case m3 =>
  intro w3 hown3 hgrow3
  have hb3 : Below wB.heap.size wB w3 := (Below.refl _ _).grown hgrow3 (Nat.le_refl _) (fun k e => by cases e)
  have hS3 := hS2.later hb3
  clear hS2 hgrow3
  go_wp2_with (at_builtin; refine wpList_append_fits_any _ rfl (.tmp 72) (.tmp 73) 24 rfl wB.heap.size 9 i0 1 Try.underlying24 hi hz1 wB.heap.size 0 (na + nb) [] rfl hown3 a1 na c1 (cellsOf na S) rfl ?a1 hao1 hS3.src (cellsOf_one na S) ?a2 ?a3)
  case a1 => rw [cellsOf_length]; omega
  case a2 => omega
  case a3 =>
  intro w4 hown4 hgrow4
  try simp only [Nat.zero_add, List.nil_append] at hown4
  have hb4 : Below wB.heap.size wB w4 := hb3.grown hgrow4 hb3.size (fun k e => by cases e; exact Nat.le_refl _)
  have hT4 := hT2.later hb4
  clear hT2 hgrow4 hb3 hS3 hown3
  go_wp2_with (at_builtin; refine wpList_append_fits_any _ rfl (.tmp 75) (.tmp 76) 24 rfl wB.heap.size 9 i0 1 Try.underlying24 hi hz1 wB.heap.size na (na + nb) _ rfl hown4 b1 nb d1 (cellsOf nb T) rfl ?b1 hbo1 hT4.src (cellsOf_one nb T) ?b2 ?b3)
  case b1 => rw [cellsOf_length]; omega
  case b2 => omega
  case b3 =>
  intro w5 hown5 hgrow5
  have hb5 : Below w.heap.size w w5 := hbB.trans ((hb4.grown hgrow5 hb4.size (fun k e => by cases e; exact Nat.le_refl _)).mono hbB.size)
  clear hgrow5 hb4 hT4 hown4 hown5 hbB
  have e9 := knw_end na nb
  rcases knw_last na nb with ⟨l1, l2⟩ | ⟨l1, l2⟩
  all_goals
    rcases knw_ways na nb v with ⟨g0, g1, g2⟩ | ⟨g0, g1, g2⟩ | ⟨g0, g1, g2, g3⟩ | ⟨g0, g1, g2, g3⟩
  all_goals
    go_wp2_with (go_at_call 10; refine (zzknown_any _ _ _ _ _ _).mono ?_; rintro e w' ⟨rfl, hkb⟩; replace hb5 := hb5.trans (hkb.mono hb5.size); clear hkb)
    go_ret
    exact ⟨rfl, hb5⟩

set_option maxHeartbeats 1000000 in
set_option maxRecDepth 100000 in
theorem join_early (kd : ByteArray) (ao : Option Addr) (na ca : Nat) (S : Nat → ByteArray) (bo : Option Addr) (nb cb : Nat) (T : Nat → ByteArray) (v : Int) (w : World)
    (hk : kd.size ≤ maxLen) (ha : na ≤ maxLen) (hb : nb ≤ maxLen) (hS : Strs w ao na S) (hT : Strs w bo nb T) (hSm : ∀ i, i < na → (S i).size ≤ maxLen) (hTm : ∀ i, i < nb → (T i).size ≤ maxLen)
    (k : ¬ ((kd.size : Int) ≤ 65536 ∧ (na : Int) ≤ 65536 ∧ (nb : Int) ≤ 65536)) :
    Calls Try.prog 5 #[.string kd, .slice ao na ca, .slice bo nb cb, .int .i64 v] w
      fun e w' => e = .returned (.bool true) ∧ Below w.heap.size w w' := by
  have Z := zzJoin_any kd ao na ca S bo nb cb T v w hk ha hb hS hT hSm hTm
  unfold maxLen at hk ha hb
  clear hSm hTm
  by_cases k1 : 65536 < (kd.size : Int)
  · clear k
    go_enter Try.func5, Try.ntmps5
    go_wp2_with (go_at_call 8; refine Z.mono ?_; rintro e w' ⟨r, rfl, hw, hr⟩; have hw2 := hw.symm; clear hw hr; subst hw2)
    all_goals
      go_ret
      exact ⟨rfl, Below.refl _ _⟩
  · by_cases k2 : 65536 < (na : Int)
    · clear k
      have k1' : decide (65536 < (kd.size : Int)) = false := by simpa using k1
      go_enter Try.func5, Try.ntmps5
      go_wp2_with (go_at_call 8; refine Z.mono ?_; rintro e w' ⟨r, rfl, hw, hr⟩; have hw2 := hw.symm; clear hw hr; subst hw2)
      all_goals
        go_ret
        exact ⟨rfl, Below.refl _ _⟩
    · have k3 : 65536 < (nb : Int) := by omega
      have k1' : decide (65536 < (kd.size : Int)) = false := by simpa using k1
      have k2' : decide (65536 < (na : Int)) = false := by simpa using k2
      clear k
      go_enter Try.func5, Try.ntmps5
      go_wp2_with (go_at_call 8; refine Z.mono ?_; rintro e w' ⟨r, rfl, hw, hr⟩; have hw2 := hw.symm; clear hw hr; subst hw2)
      all_goals
        go_ret
        exact ⟨rfl, Below.refl _ _⟩
end Go.Proofs.Qxb6615944a
