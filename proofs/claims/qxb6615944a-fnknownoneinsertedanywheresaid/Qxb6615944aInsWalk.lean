import Derived.Test.Qxb6615944aKnown
import Derived.Test.Qxb6615944aJoinWalk
import Derived.Maps.AppendAt
namespace Go.Proofs.Qxb6615944a
open Go.RowKit

set_option maxHeartbeats 2000000 in
/-- 'zzBytes_FnKnownOneInsertedAnywhere': true only where every string is short; nothing turns -/
theorem zzIns_any (kd : ByteArray) (ao : Option Addr) (na ca : Nat) (S : Nat → ByteArray) (p : Int) (x : ByteArray) (v : Int) (w : World)
    (hk : kd.size ≤ maxLen) (ha : na ≤ maxLen) (hx : x.size ≤ maxLen) (hS : Strs w ao na S) (hSm : ∀ i, i < na → (S i).size ≤ maxLen) :
    Calls Try.prog 11 #[.string kd, .slice ao na ca, .int .i64 p, .string x, .int .i64 v] w
      fun e w' => SaysB w (∀ i, i < na → (S i).size ≤ 1048576) e w' := by
  unfold maxLen at hk ha hx
  go_enter Try.func11, Try.ntmps11
  go_wp2
  · go_ret; exact ⟨_, rfl, rfl, by simp⟩
  · go_ret; exact ⟨_, rfl, rfl, by simp⟩
  · go_ret; exact ⟨_, rfl, rfl, by simp⟩
  · go_loop [11, 12] (fun t i => ∃ (k : Nat) (x : Int), k ≤ na ∧ i = .int .i64 k ∧ t = .int .i64 x ∧ 0 ≤ x ∧ x ≤ 1048576 ∧ ∀ i, i < k → (S i).size ≤ 1048576) (fun _ i => na - (intOf i).toNat)
    case atStart => exact ⟨0, _, Nat.zero_le _, rfl, rfl, by omega, by omega, fun i hi => absurd hi (Nat.not_lt_zero _)⟩
    case round =>
      obtain ⟨k, y, hk, rfl, rfl, hy0, hy1, hall⟩ := hrel
      by_cases hlt : k < na
      · obtain ⟨b, off, hao, hc⟩ := hS k hlt
        have hz := hSm k hlt
        have HA : Hid ((S k).size ≤ 1048576 → ∀ i, i < k + 1 → (S i).size ≤ 1048576) := fun h => all_succ hall h
        generalize S k = s at hc hz HA
        subst hao
        unfold maxLen at hz
        clear hall
        go_wp2
        · go_ret; exact ⟨_, rfl, rfl, by simp⟩
        · go_ret; exact ⟨_, rfl, rfl, by simp⟩
        · go_round
          case rel => exact ⟨k + 1, _, by omega, by go_num, rfl, by omega, by omega, HA.out (by omega)⟩
          case measure => simp [intOf]; omega
      · have HA : Hid (∀ i, i < na → (S i).size ≤ 1048576) := fun i hi => hall i (by omega)
        clear hall
        go_wp2
        · go_ret; exact ⟨_, rfl, rfl, by simp⟩
        · go_ret; exact ⟨_, rfl, rfl, by simp⟩
        · go_ret; exact ⟨_, rfl, rfl, fun _ => HA.out⟩

theorem of_not {r : Bool} (h : (!r) = false) : r = true := by simpa using h

/-- the plain law: one more known index -/
theorem knw_one (na : Nat) (v : Int) :
    (knw na v = true ∧ knw (na + 1) v = true) ∨ (knw na v = false ∧ (v == (na : Int)) = true ∧ knw (na + 1) v = true) ∨ (knw na v = false ∧ (v == (na : Int)) = false ∧ knw (na + 1) v = false) := by
  simp only [knw, Bool.and_eq_true, Bool.and_eq_false_iff, decide_eq_true_eq, decide_eq_false_iff_not, beq_iff_eq, beq_eq_false_iff_ne]
  omega
theorem knw_at (na : Nat) : knw na (na : Int) = false ∧ knw (na + 1) (na : Int) = true := by
  simp only [knw, Bool.and_eq_true, Bool.and_eq_false_iff, decide_eq_true_eq, decide_eq_false_iff_not]
  omega

/-- what the slot holds behind the copy: its capacity too -/
def CopiedC (w : World) (n : Nat) (S : Nat → ByteArray) (s : Value) (wx : World) : Prop :=
  ∃ a1 c1, s = .slice a1 n c1 ∧ n ≤ c1 ∧ c1 ≤ maxLen ∧ Strs wx a1 n S ∧ (a1 = none → n = 0 ∧ c1 = 0) ∧ Below w.heap.size w wx

theorem CopiedC.made {w w2 : World} {n : Nat} {S : Nat → ByteArray} {cur : List Value} {g : Nat} (hn : n ≤ maxLen) (hl : cur.length = n) (h : Hid (w2.heap[g]? = some (.cells (splice cur 0 (cellsOf n S)).toArray 9 (0, 0)))) (hb : Below w.heap.size w w2) :
    CopiedC w n S (.slice (some ⟨g, 0, none⟩) n n) w2 :=
  ⟨_, _, rfl, Nat.le_refl _, hn, Strs.ofBlock h.out (splice_all (by rw [cellsOf_length, hl])), fun e => by simp at e, hb⟩

theorem Strs.init {w : World} {ao : Option Addr} {n p : Nat} {S : Nat → ByteArray} (h : Strs w ao n S) (hp : p ≤ n) : Strs w ao p S := fun i hi => h i (by omega)
theorem Strs.rest {w : World} {ao : Option Addr} {n p c : Nat} {S : Nat → ByteArray} (h : Strs w ao n S) (hc : n ≤ c) :
    Strs w (if c = p then ao else ao.map (fun x => x.add p)) (n - p) (fun i => S (p + i)) := by
  intro i hi
  obtain ⟨b, off, e, hx⟩ := h (p + i) (by omega)
  subst e
  rw [if_neg (by omega)]
  refine ⟨b, off + p, ?_, ?_⟩
  · rw [Option.map_some, Go.WideShapes.add_plain]
  · rw [Nat.add_assoc]; exact hx

theorem none_of {c p : Nat} {ao : Option Addr} {f : Addr → Addr} (h : (if c = p then ao else ao.map f) = none) : ao = none := by
  cases ao with
  | none => rfl
  | some a => split at h <;> simp at h

set_option maxHeartbeats 2000000 in
set_option maxRecDepth 100000 in
theorem ins_any (kd : ByteArray) (ao : Option Addr) (na ca : Nat) (S : Nat → ByteArray) (p : Nat) (x : ByteArray) (v : Int) (w : World)
    (hk : kd.size ≤ maxLen) (ha : na ≤ maxLen) (hx : x.size ≤ maxLen) (hS : Strs w ao na S) (hSm : ∀ i, i < na → (S i).size ≤ maxLen)
    (hca : ca ≤ maxLen) (hle : na ≤ ca) (hao : ao = none → na = 0 ∧ ca = 0)
    (k1 : (kd.size : Int) ≤ 65536) (k2 : (na : Int) ≤ 65536) (k3 : (x.size : Int) ≤ 65536) (hp : p ≤ na) :
    Calls Try.prog 6 #[.string kd, .slice ao na ca, .int .i64 (p : Int), .string x, .int .i64 v] w
      fun e w' => e = .returned (.bool true) ∧ Below w.heap.size w w' := by
  have q24 : ∀ (w : World) (a : Option Addr) (n c n' c' : Nat), (binOp .neq 24 (.slice a n c) (.slice none n' c')).run Try.prog w = .ok (.bool (!a.isNone)) w := fun w a n c n' c' => run_neq_slice_nil_any w _ _ a n c n' c' Try.underlying24
  obtain ⟨i0, hi, hz0, hz1, hz2⟩ := info_parts Try.info9
  have Z := zzIns_any kd ao na ca S p x v w hk ha hx hS hSm
  unfold maxLen at hk ha hx
  clear hSm
  go_enter Try.func6, Try.ntmps6
  go_upto_if 53 with (first | (go_at_call 11; refine Z.mono ?_; rintro e w' ⟨r, rfl, hw, hr⟩; have hw2 := hw.symm; clear hw; subst hw2) | (go_at_call 9; refine (bytes_any _ ao na ca S w (by omega) (by omega) (by omega) hS (hr (of_not (by assumption)))).mono ?_; rintro e w' ⟨x1, rfl, hx1, hw⟩; have hw2 := hw.symm; clear hw; subst hw2))
  · go_ret
    exact ⟨rfl, Below.refl _ _⟩
  · go_ret
    exact ⟨rfl, Below.refl _ _⟩
  clear hr Z
  go_cut [1] (fun s wx => CopiedC w na S s wx)
  case first =>
    cases ao with
    | none =>
      obtain ⟨rfl, rfl⟩ := hao rfl
      clear hao
      go_wp2
      go_meet
      case rel => exact ⟨_, _, rfl, hle, hca, hS, fun _ => ⟨rfl, rfl⟩, Below.refl _ _⟩
    | some ad =>
      clear hao
      go_wp2_with (at_make; refine wpList_make_full _ rfl _ _ 24 rfl w.heap.size 9 i0 _ 1 Try.underlying24 hi hz0 hz1 .i64 .i64 _ _ na rfl rfl rfl rfl ?_ ?_ (Nat.le_refl _) ?_)
      · rw [hz2]; omega
      · unfold maxLen; omega
      intro w1 hown1 hgrow1
      obtain ⟨cur, hg1, hlen1, hle1⟩ := ownsRow_block hown1
      have hb1 : Below w.heap.size w w1 := (Below.refl _ _).grown hgrow1 (Nat.le_refl _) (fun k e => by cases e)
      have hS1 := hS.later hb1
      clear hown1 hgrow1
      have HL : Hid (cur.length = na) := hlen1
      clear hlen1
      go_wp2_with (refine wpList_copy_splice rfl (.tmp 57) (.tmp 58) 24 24 rfl 9 Try.underlying24 Try.size9 _ _ _ _ _ _ rfl rfl w.heap.size 0 cur 9 hg1 (cellsOf na S) ?_ (fun _ => ⟨rfl, ad, rfl, hS1.src ad rfl⟩) ?_ (cellsOf_one na S) w.heap.size w hb1 (Nat.le_refl _) ?_)
      · rw [cellsOf_length]; exact (Nat.min_self na).symm
      · rw [cellsOf_length, HL.out]; omega
      intro w2 hg2 hb2
      have R := CopiedC.made (by unfold maxLen; omega) HL.out hg2 hb2
      clear hg1 hg2 hb1 hS1
      go_wp2
      go_meet
      case rel => exact R
  case rest =>
  obtain ⟨a1, c1, rfl, hle1, hc1, hS1, hao1, hb1⟩ := hcut
  rename World => wA
  clear hS hao hle hca
  unfold maxLen at hc1
  go_wp2_with (first | (at_make; refine wpList_make_own _ rfl _ _ 24 rfl wA.heap.size 9 i0 _ 1 Try.underlying24 hi hz0 hz1 .i64 .i64 _ (na + 1) rfl rfl (by omega) ?m1 ?m2 (Nat.le_refl _) ?m3))
  case m1 => rw [hz2]; omega
  case m2 => unfold maxLen; omega
  case m3 =>
  intro w3 hown3 hgrow3
  have hb3 : Below wA.heap.size wA w3 := (Below.refl _ _).grown hgrow3 (Nat.le_refl _) (fun k e => by cases e)
  have hS3 := hS1.later hb3
  clear hgrow3
  go_wp2_with (at_builtin; refine wpList_append_fits_any _ rfl (.tmp 66) (.tmp 69) 24 rfl wA.heap.size 9 i0 1 Try.underlying24 hi hz1 wA.heap.size 0 (na + 1) [] rfl hown3 _ p _ (cellsOf p S) rfl ?a1 ?a2 ?a3 (cellsOf_one p S) ?a4 ?a5)
  case a1 => rw [cellsOf_length]; omega
  case a2 => intro e; have := hao1 e; omega
  case a3 => exact (hS3.init hp).src
  case a4 => omega
  case a5 =>
  intro w4 hown4 hgrow4
  have hb4 : Below wA.heap.size wA w4 := hb3.grown hgrow4 hb3.size (fun k e => by cases e; exact Nat.le_refl _)
  have hS4 := hS1.later hb4
  clear hS3 hb3 hgrow4 hown3
  go_wp2_with (at_builtin; refine wpList_append_fits_any _ rfl (.tmp 71) (.tmp 73) 24 rfl wA.heap.size 9 i0 1 Try.underlying24 hi hz1 wA.heap.size p (na + 1) (cellsOf p S) rfl (hown4.alloc _) _ 1 _ [.string x] rfl ?b1 ?b2 ?b3 ?b4 ?b5 ?b6)
  case b1 => rfl
  case b2 => intro e; cases e
  case b3 => intro ad e; cases e; exact cell_one_new _ _ _
  case b4 => intro u hu; simp at hu; subst hu; rfl
  case b5 => omega
  case b6 =>
  intro w5 hown5 hgrow5
  have hb5 : Below wA.heap.size wA w5 := (hb4.alloc hb4.size _).grown hgrow5 (by have := hb4.size; simp; omega) (fun k e => by cases e; exact Nat.le_refl _)
  have hS5 := (hS1.later hb5).rest (p := p) hle1
  clear hS1 hS4 hb4 hgrow5 hown4
  by_cases hcp : c1 = p
  · obtain rfl : na = p := by omega
    subst hcp
    clear hS5
    go_wp2_with (at_builtin; refine wpList_append_fits_any _ rfl (.tmp 75) (.tmp 78) 24 rfl wA.heap.size 9 i0 1 Try.underlying24 hi hz1 wA.heap.size (c1 + 1) (c1 + 1) _ rfl hown5 _ 0 _ [] rfl rfl (fun _ => ⟨rfl, rfl⟩) (fun _ _ _ _ hu => by simp at hu) (fun _ hu => by simp at hu) (by omega) ?_)
    intro w6 hown6 hgrow6
    have hb6 : Below w.heap.size w w6 := hb1.trans ((hb5.grown hgrow6 hb5.size (fun k e => by cases e; exact Nat.le_refl _)).mono hb1.size)
    clear hgrow6 hb5 hown5 hown6
    obtain ⟨e1, e2⟩ := knw_at c1
    rcases knw_one c1 v with ⟨g1, g2⟩ | ⟨g1, g2, g3⟩ | ⟨g1, g2, g3⟩
    all_goals
      go_wp2_with (go_at_call 10; refine (zzknown_any _ _ _ _ _ _).mono ?_; rintro e w' ⟨rfl, hkb⟩; replace hb6 := hb6.trans (hkb.mono hb6.size); clear hkb)
      go_ret
      exact ⟨rfl, hb6⟩
  · rw [if_neg hcp] at hS5
    go_wp2_with (at_builtin; refine wpList_append_fits_any _ rfl (.tmp 75) (.tmp 78) 24 rfl wA.heap.size 9 i0 1 Try.underlying24 hi hz1 wA.heap.size (p + 1) (na + 1) _ rfl hown5 _ (na - p) _ (cellsOf (na - p) (fun i => S (p + i))) rfl ?_ ?_ ?_ (cellsOf_one _ _) ?_ ?_)
    · rw [cellsOf_length]; omega
    · intro e; have := hao1 (by simpa using e); omega
    · exact hS5.src
    · omega
    intro w6 hown6 hgrow6
    have hb6 : Below w.heap.size w w6 := hb1.trans ((hb5.grown hgrow6 hb5.size (fun k e => by cases e; exact Nat.le_refl _)).mono hb1.size)
    clear hgrow6 hb5 hS5 hown5 hown6
    have en : p + 1 + (na - p) = na + 1 := by omega
    obtain ⟨e1, e2⟩ := knw_at na
    rcases knw_one na v with ⟨g1, g2⟩ | ⟨g1, g2, g3⟩ | ⟨g1, g2, g3⟩
    all_goals
      go_wp2_with (go_at_call 10; refine (zzknown_any _ _ _ _ _ _).mono ?_; rintro e w' ⟨rfl, hkb⟩; replace hb6 := hb6.trans (hkb.mono hb6.size); clear hkb)
      go_ret
      exact ⟨rfl, hb6⟩

set_option maxHeartbeats 1000000 in
set_option maxRecDepth 100000 in
/-- the law's own bounds say no: it answers true at once -/
theorem ins_early (kd : ByteArray) (ao : Option Addr) (na ca : Nat) (S : Nat → ByteArray) (p : Int) (x : ByteArray) (v : Int) (w : World)
    (hk : kd.size ≤ maxLen) (ha : na ≤ maxLen) (hx : x.size ≤ maxLen) (hS : Strs w ao na S) (hSm : ∀ i, i < na → (S i).size ≤ maxLen)
    (k : ¬ ((kd.size : Int) ≤ 65536 ∧ (na : Int) ≤ 65536 ∧ (x.size : Int) ≤ 65536)) :
    Calls Try.prog 6 #[.string kd, .slice ao na ca, .int .i64 p, .string x, .int .i64 v] w
      fun e w' => e = .returned (.bool true) ∧ Below w.heap.size w w' := by
  have Z := zzIns_any kd ao na ca S p x v w hk ha hx hS hSm
  unfold maxLen at hk ha hx
  clear hSm
  by_cases k1 : 65536 < (kd.size : Int)
  · clear k
    go_enter Try.func6, Try.ntmps6
    go_wp2_with (go_at_call 11; refine Z.mono ?_; rintro e w' ⟨r, rfl, hw, hr⟩; have hw2 := hw.symm; clear hw hr; subst hw2)
    all_goals
      go_ret
      exact ⟨rfl, Below.refl _ _⟩
  · by_cases k2 : 65536 < (na : Int)
    · clear k
      have k1' : decide (65536 < (kd.size : Int)) = false := by simpa using k1
      go_enter Try.func6, Try.ntmps6
      go_wp2_with (go_at_call 11; refine Z.mono ?_; rintro e w' ⟨r, rfl, hw, hr⟩; have hw2 := hw.symm; clear hw hr; subst hw2)
      all_goals
        go_ret
        exact ⟨rfl, Below.refl _ _⟩
    · have k3 : 65536 < (x.size : Int) := by omega
      have k1' : decide (65536 < (kd.size : Int)) = false := by simpa using k1
      have k2' : decide (65536 < (na : Int)) = false := by simpa using k2
      clear k
      go_enter Try.func6, Try.ntmps6
      go_wp2_with (go_at_call 11; refine Z.mono ?_; rintro e w' ⟨r, rfl, hw, hr⟩; have hw2 := hw.symm; clear hw hr; subst hw2)
      all_goals
        go_ret
        exact ⟨rfl, Below.refl _ _⟩

set_option maxHeartbeats 1000000 in
set_option maxRecDepth 100000 in
/-- the place lies outside the list: true -/
theorem ins_out (kd : ByteArray) (ao : Option Addr) (na ca : Nat) (S : Nat → ByteArray) (p : Int) (x : ByteArray) (v : Int) (w : World)
    (hk : kd.size ≤ maxLen) (ha : na ≤ maxLen) (hx : x.size ≤ maxLen) (hS : Strs w ao na S) (hSm : ∀ i, i < na → (S i).size ≤ maxLen)
    (k1 : (kd.size : Int) ≤ 65536) (k2 : (na : Int) ≤ 65536) (k3 : (x.size : Int) ≤ 65536) (hp : p < 0 ∨ (na : Int) < p) :
    Calls Try.prog 6 #[.string kd, .slice ao na ca, .int .i64 p, .string x, .int .i64 v] w
      fun e w' => e = .returned (.bool true) ∧ Below w.heap.size w w' := by
  have Z := zzIns_any kd ao na ca S p x v w hk ha hx hS hSm
  unfold maxLen at hk ha hx
  clear hSm
  by_cases h0 : p < 0
  · clear hp
    go_enter Try.func6, Try.ntmps6
    go_wp2_with (first | (go_at_call 11; refine Z.mono ?_; rintro e w' ⟨r, rfl, hw, hr⟩; have hw2 := hw.symm; clear hw; subst hw2) | (go_at_call 9; refine (bytes_any _ ao na ca S w (by omega) (by omega) (by omega) hS (hr (of_not (by assumption)))).mono ?_; rintro e w' ⟨x1, rfl, hx1, hw⟩; have hw2 := hw.symm; clear hw; subst hw2))
    all_goals
      go_ret
      exact ⟨rfl, Below.refl _ _⟩
  · have h1 : (na : Int) < p := by omega
    have h0' : decide (p < 0) = false := by simpa using h0
    clear hp
    go_enter Try.func6, Try.ntmps6
    go_wp2_with (first | (go_at_call 11; refine Z.mono ?_; rintro e w' ⟨r, rfl, hw, hr⟩; have hw2 := hw.symm; clear hw; subst hw2) | (go_at_call 9; refine (bytes_any _ ao na ca S w (by omega) (by omega) (by omega) hS (hr (of_not (by assumption)))).mono ?_; rintro e w' ⟨x1, rfl, hx1, hw⟩; have hw2 := hw.symm; clear hw; subst hw2))
    all_goals
      go_ret
      exact ⟨rfl, Below.refl _ _⟩
end Go.Proofs.Qxb6615944a
