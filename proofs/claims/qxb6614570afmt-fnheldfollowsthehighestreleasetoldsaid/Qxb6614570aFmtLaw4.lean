import Derived.Test.Qxb6614570aFmtNums
namespace Go.Proofs.Qxb6614570aFmt
open Go.RowKit
set_option linter.unusedVariables false

set_option maxHeartbeats 1000000 in
theorem zz11_any (x0 x1 x2 x3 x4 : Value) (a : Option Addr) (len cap : Nat) (b : Option Addr) (lem cbp : Nat) (w : World) (hl : len ≤ maxLen) (hm : lem ≤ maxLen) :
    Calls Tryf.prog 11 #[x0, x1, x2, x3, x4, .slice a len cap, .slice b lem cbp] w fun e w' => (∃ r : Bool, e = .returned (.bool r)) ∧ w' = w := by
  unfold maxLen at hl hm
  go_enter Tryf.func11, Tryf.ntmps11
  go_wp2
  all_goals
    go_ret
    exact ⟨⟨_, rfl⟩, rfl⟩

theorem StableAt.mono {B B' : Nat} {W : World} {id s : Nat} {v : Value} (h : StableAt B W id s v) (hb : B ≤ B') : StableAt B' W id s v := by
  cases h with
  | short a len cap h1 h2 => exact .short a len cap h1 h2
  | long b len cap h1 h2 h3 h4 => exact .long b len cap h1 (by omega) h3 h4

set_option maxHeartbeats 4000000 in
set_option maxRecDepth 100000 in
theorem law4_any (id n ask k k2 : Int) (ao : Option Addr) (len cap : Nat) (S : Nat → Nat) (bo : Option Addr) (lem cbp : Nat) (S2 : Nat → Nat) (w : World) (hl : len ≤ maxLen) (hm : lem ≤ maxLen) (hS : Nums w ao len S) (hS2 : Nums w bo lem S2)
    (hao : ao = none → len = 0 ∧ cap = 0) (hbo : bo = none → lem = 0 ∧ cbp = 0) (hT : Table w) (h0 : 0 < w.heap.size)
    (bid : id ≤ 9223372036854775807) (bn : n ≤ 9223372036854775807) (bk : k ≤ 9223372036854775807) (bk2 : k2 ≤ 9223372036854775807) :
    Calls Tryf.prog 4 #[.int .i64 id, .int .i64 n, .int .i64 ask, .int .i64 k, .int .i64 k2, .slice ao len cap, .slice bo lem cbp] w
      fun e w' => e = .returned (.bool true) ∧ Below w.heap.size w w' := by
  have q22 : ∀ (w : World) (a : Option Addr) (n c n' c' : Nat), (binOp .neq 22 (.slice a n c) (.slice none n' c')).run Tryf.prog w = .ok (.bool (!a.isNone)) w := fun w a n c n' c' => run_neq_slice_nil_any w _ _ a n c n' c' Tryf.underlying22
  obtain ⟨i0, hi, hz0, hz1, hz2⟩ := info_parts Tryf.info40
  have Z := zz11_any (.int .i64 id) (.int .i64 n) (.int .i64 ask) (.int .i64 k) (.int .i64 k2) ao len cap bo lem cbp w hl hm
  unfold maxLen at hl hm
  go_enter Tryf.func4, Tryf.ntmps4
  go_upto_if 68 with (go_at_call 11; refine Z.mono ?_; rintro e w' ⟨⟨r, rfl⟩, hw⟩; have hw2 := hw.symm; clear hw; subst hw2)
  all_goals try (go_ret; exact ⟨rfl, Below.refl _ _⟩)
  have l65 : len ≤ 65536 := by omega
  have m65 : lem ≤ 65536 := by omega
  obtain ⟨id, rfl⟩ : ∃ m : Nat, id = (m : Int) := ⟨id.toNat, by omega⟩
  obtain ⟨n, rfl⟩ : ∃ m : Nat, n = (m : Int) := ⟨n.toNat, by omega⟩
  obtain ⟨k, rfl⟩ : ∃ m : Nat, k = (m : Int) := ⟨k.toNat, by omega⟩
  obtain ⟨k2, rfl⟩ : ∃ m : Nat, k2 = (m : Int) := ⟨k2.toNat, by omega⟩
  have hidn : id < n := by omega
  have hn6 : n ≤ 65536 := by omega
  have hk6 : k ≤ 65536 := by omega
  have hk26 : k2 ≤ 65536 := by omega
  have hN : Hid (∀ i, i < len → S i ≤ 4294967295) := fun i h => (hS i h).1
  have hN2 : Hid (∀ i, i < lem → S2 i ≤ 4294967295) := fun i h => (hS2 i h).1
  clear Z bid bn bk bk2
  go_cut [5] (fun s wx => Copied w id len S s wx)
  case first =>
    cases ao with
    | none =>
      obtain ⟨rfl, rfl⟩ := hao rfl
      clear hao
      go_wp2
      go_meet
      case rel => exact ⟨⟨_, _, rfl⟩, .short _ _ _ (Nat.zero_le _) (by simp [numAt]), Below.refl _ _⟩
    | some ad =>
      clear hao
      go_wp2_with (at_make; refine wpList_make_full _ rfl _ _ 22 rfl w.heap.size 40 i0 _ 1 Tryf.underlying22 hi hz0 hz1 .i64 .i64 _ _ len rfl rfl rfl rfl ?_ ?_ (Nat.le_refl _) ?_)
      · rw [hz2]; omega
      · unfold maxLen; omega
      intro w1 hown1 hgrow1
      obtain ⟨cur, hg1, hlen1, hle1⟩ := ownsRow_block hown1
      have hb1 : Below w.heap.size w w1 := (Below.refl _ _).grown hgrow1 (Nat.le_refl _) (fun k e => by cases e)
      have hS1 := hS.later hb1
      clear hown1 hgrow1
      have HL : Hid (cur.length = len) := hlen1
      clear hlen1
      go_wp2_with (refine wpList_copy_splice rfl (.tmp 72) (.tmp 73) 22 22 rfl 40 Tryf.underlying22 Tryf.size40 _ _ _ _ _ _ rfl rfl w.heap.size 0 cur 40 hg1 (cellsOf len S) ?_ (fun _ => ⟨rfl, ad, rfl, hS1.src ad rfl⟩) ?_ (cellsOf_one len S) w.heap.size w hb1 (Nat.le_refl _) ?_)
      · rw [cellsOf_length]; exact (Nat.min_self len).symm
      · rw [cellsOf_length, HL.out]; omega
      intro w2 hg2 hb2
      have R := Copied.made (id := id) hN.out HL.out hg2 hb2
      clear hg1 hg2 hb1 hS1
      go_wp2
      go_meet
      case rel => exact R
  case rest =>
  obtain ⟨⟨a1, c1, rfl⟩, hst, hb1⟩ := hcut
  rename World => wA
  have hS2A := hS2.later hb1
  clear hS hS2 hN hao
  go_upto_if 77 with fail
  go_cut [6] (fun s wx => Copied wA id lem S2 s wx)
  case first =>
    cases bo with
    | none =>
      obtain ⟨rfl, rfl⟩ := hbo rfl
      clear hbo
      go_wp2
      go_meet
      case rel => exact ⟨⟨_, _, rfl⟩, .short _ _ _ (Nat.zero_le _) (by simp [numAt]), Below.refl _ _⟩
    | some ad =>
      clear hbo
      go_wp2_with (at_make; refine wpList_make_full _ rfl _ _ 22 rfl wA.heap.size 40 i0 _ 1 Tryf.underlying22 hi hz0 hz1 .i64 .i64 _ _ lem rfl rfl rfl rfl ?_ ?_ (Nat.le_refl _) ?_)
      · rw [hz2]; omega
      · unfold maxLen; omega
      intro w1 hown1 hgrow1
      obtain ⟨cur, hg1, hlen1, hle1⟩ := ownsRow_block hown1
      have hb1' : Below wA.heap.size wA w1 := (Below.refl _ _).grown hgrow1 (Nat.le_refl _) (fun k e => by cases e)
      have hS1 := hS2A.later hb1'
      clear hown1 hgrow1
      have HL : Hid (cur.length = lem) := hlen1
      clear hlen1
      go_wp2_with (refine wpList_copy_splice rfl (.tmp 81) (.tmp 82) 22 22 rfl 40 Tryf.underlying22 Tryf.size40 _ _ _ _ _ _ rfl rfl wA.heap.size 0 cur 40 hg1 (cellsOf lem S2) ?_ (fun _ => ⟨rfl, ad, rfl, hS1.src ad rfl⟩) ?_ (cellsOf_one lem S2) wA.heap.size wA hb1' (Nat.le_refl _) ?_)
      · rw [cellsOf_length]; exact (Nat.min_self lem).symm
      · rw [cellsOf_length, HL.out]; omega
      intro w2 hg2 hb2
      have R := Copied.made (id := id) hN2.out HL.out hg2 hb2
      clear hg1 hg2 hb1' hS1
      go_wp2
      go_meet
      case rel => exact R
  case rest =>
  obtain ⟨⟨a2, c2, rfl⟩, hst2, hb1b⟩ := hcut
  rename World => wB
  clear hS2A hN2 hbo
  obtain ⟨s, hs⟩ : ∃ s, s = numAt len S id := ⟨_, rfl⟩
  rw [← hs] at hst
  obtain ⟨s2, hs2⟩ : ∃ s, s = numAt lem S2 id := ⟨_, rfl⟩
  rw [← hs2] at hst2
  have hstB0 : StableAt wB.heap.size wB id s (.slice a1 len c1) := (hst.below hb1b).mono hb1b.size
  have hb1w : Below w.heap.size w wB := hb1.trans (hb1b.mono hb1.size)
  have hTA : Table wB := hT.of_block (hb1w.block 0 h0)
  have hA0 : 0 < wB.heap.size := Nat.lt_of_lt_of_le h0 hb1w.size
  clear hs hs2 hT hst hb1 hb1b
  go_wp2_with (go_at_call 6; refine (zzNewM_any id n ask _ hidn hn6).mono ?_; rintro e w' ⟨cd, cs, ch, rfl, hok, hmc, hb2⟩)
  obtain ⟨L, hLM, hLB, hLid, hok, hmc⟩ : ∃ L : Lay, Hid (L.M = wB.heap.size + 1) ∧ Hid (L.B = wB.heap.size) ∧ Hid (L.id = id) ∧ L.Ok ∧ MC L w' none 0 0 0 := ⟨newLay wB id n cd cs ch, (rfl : (newLay wB id n cd cs ch).M = wB.heap.size + 1), (rfl : (newLay wB id n cd cs ch).B = wB.heap.size), (rfl : (newLay wB id n cd cs ch).id = id), hok, hmc⟩
  have hB0 : 0 < L.B := by rw [hLB.out]; exact hA0
  have SEND : Hid (∀ (wr : World) (cm : Option Nat) (i r : Nat), MC L wr cm i r r → i < 131072 → Calls Tryf.prog 7 #[.pointer (some ⟨wB.heap.size + 1, 0, none⟩), .slice none 0 0] wr
      fun e w' => (∃ a, e = .returned (.tuple #[.pointer (some a), .nilIface])) ∧ (∃ C, MC L w' (some C) (i + 1) r r) ∧ Below L.B wr w') := fun wr cm i r h hi => by rw [← hLM.out]; exact send_any L hok wr cm i r r h hi
  have REL : Hid (∀ (wr : World) (cm : Option Nat) (kk r s : Nat) (a : Option Addr) (ln cp : Nat), MC L wr cm kk r r → Table wr → StableAt L.B wr id s (.slice a ln cp) → Calls Tryf.prog 10 #[.pointer (some ⟨wB.heap.size + 1, 0, none⟩), .slice a ln cp] wr
      fun e w' => (e = .returned (.tuple #[]) ∧ MC L w' cm kk (upTo kk r s) (upTo kk r s)) ∧ Below L.B wr w') := fun wr cm kk r s a ln cp h ht hs => by rw [← hLM.out]; exact release_any L hok hB0 wr cm kk r s a ln cp h ht (by rw [hLid.out]; exact hs)
  have HELD : Hid (∀ (wr : World) (cm : Option Nat) (kk r : Nat), MC L wr cm kk r r → Calls Tryf.prog 8 #[.pointer (some ⟨wB.heap.size + 1, 0, none⟩)] wr
      fun e w' => e = .returned (.int .i64 ((kk : Int) - r)) ∧ w' = wr) := fun wr cm kk r h => by rw [← hLM.out]; exact held_any L.M _ wr h.c5
  have hstB : StableAt L.B wB id s (.slice a1 len c1) := by rw [hLB.out]; exact hstB0
  have hstB2 : StableAt L.B wB id s2 (.slice a2 lem c2) := by rw [hLB.out]; exact hst2
  have hBw : Hid (w.heap.size ≤ L.B) := by unfold Hid; rw [hLB.out]; exact hb1w.size
  clear hi hz0 hz1 hz2 q22 hl hm hstB0 hst2
  go_loopw [18] (fun v wr => ∃ i : Nat, i ≤ k ∧ v = .int .i64 (i : Int) ∧ (∃ cm, MC L wr cm i 0 0) ∧ Below L.B wB wr) (fun v _ => k - (intOf v).toNat)
  case atStart => exact ⟨0, Nat.zero_le _, rfl, ⟨_, hmc⟩, by rw [hLB.out]; exact hb2⟩
  case round =>
    obtain ⟨i, hi, rfl, ⟨cm, hm⟩, hbw⟩ := hrel
    by_cases hlt : i < k
    · have SND := SEND.out wr cm i 0 hm (by omega)
      clear hm
      have hd : decide ((i : Int) < (k : Int)) = true := by simp; omega
      go_wp2_with (go_at_call 7; refine SND.mono ?_; clear SND; rintro e w' ⟨⟨am, rfl⟩, hm2, hb3⟩)
      go_roundw
      case rel => exact ⟨i + 1, by omega, by simp, hm2.elim fun C h => ⟨_, h⟩, hbw.trans hb3⟩
      case measure => simp [intOf]; omega
    · obtain rfl : i = k := by omega
      have hd : decide ((i : Int) < (i : Int)) = false := by simp
      have hTw : Table wr := hTA.of_block (hbw.block 0 hB0)
      obtain ⟨m, hmm⟩ : ∃ m, Hid (m = min s i) := ⟨_, (rfl : min s i = min s i)⟩
      have U1 := upTo_any L.B id i s a1 len c1 wr (by omega) (by omega) l65 (hstB.below hbw)
      rw [← hmm.out] at U1
      have hmi : m ≤ i := by rw [hmm.out]; omega
      have hup1 : upTo i 0 s = m := by unfold upTo; rw [hmm.out]; omega
      have R1 := REL.out wr cm i 0 s a1 len c1 hm hTw (hstB.below hbw)
      rw [hup1] at R1
      clear hm hup1 hTw
      go_wp2_with (go_at_call 9; refine U1.mono ?_; clear U1; rintro e w' ⟨rfl, hw⟩; have hw2 := hw.symm; clear hw; subst hw2)
      refine R1.mono ?_
      rintro e w1 ⟨⟨rfl, hm1⟩, hbx1⟩
      have hbw1 := hbw.trans hbx1
      have H2 := HELD.out w1 cm i m hm1
      clear R1 hbx1 hbw
      go_wp2_with (go_at_call 8; refine H2.mono ?_; clear H2; rintro e w' ⟨rfl, hw⟩; have hw2 := hw.symm; clear hw; subst hw2)
      obtain ⟨K, hK⟩ : ∃ K, Hid (K = i + k2) := ⟨_, (rfl : i + k2 = i + k2)⟩
      have hKi : i ≤ K := by rw [hK.out]; omega
      go_loopw [22] (fun v wr => ∃ j : Nat, j ≤ k2 ∧ v = .int .i64 (j : Int) ∧ (∃ cm, MC L wr cm (i + j) m m) ∧ Below L.B wB wr) (fun v _ => k2 - (intOf v).toNat)
      case atStart => exact ⟨0, Nat.zero_le _, rfl, ⟨_, hm1⟩, hbw1⟩
      case round =>
        obtain ⟨j, hj, rfl, ⟨cm, hm⟩, hbw⟩ := hrel
        by_cases hlt : j < k2
        · have SND := SEND.out wr cm (i + j) m hm (by omega)
          clear hm
          have hd : decide ((j : Int) < (k2 : Int)) = true := by simp; omega
          go_wp2_with (go_at_call 7; refine SND.mono ?_; clear SND; rintro e w' ⟨⟨am, rfl⟩, hm2, hb3⟩)
          go_roundw
          case rel => exact ⟨j + 1, by omega, by simp, hm2.elim fun C h => ⟨_, h⟩, hbw.trans hb3⟩
          case measure => simp [intOf]; omega
        · obtain rfl : j = k2 := by omega
          have hd : decide ((j : Int) < (j : Int)) = false := by simp
          have hTw : Table wr := hTA.of_block (hbw.block 0 hB0)
          rw [← hK.out] at hm
          obtain ⟨m2, hmm2⟩ : ∃ m2, Hid (m2 = min s2 K) := ⟨_, (rfl : min s2 K = min s2 K)⟩
          have hKsum : (i : Int) + (j : Int) = (K : Int) := by have := hK.out; omega
          have hK13 : K ≤ 131072 := by have := hK.out; omega
          have U2 := upTo_any L.B id K s2 a2 lem c2 wr (by omega) hK13 m65 (hstB2.below hbw)
          rw [← hmm2.out] at U2
          have hm2K : m2 ≤ K := by rw [hmm2.out]; omega
          have H3 := HELD.out wr cm K m hm
          have R2 := REL.out wr cm K m s2 a2 lem c2 hm hTw (hstB2.below hbw)
          have hup2 : upTo K m s2 = max m m2 := by unfold upTo; rw [hmm2.out]
          rw [hup2] at R2
          have hmK : m ≤ K := by omega
          clear hm hup2 hTw
          rcases Nat.lt_or_ge m2 m with hlo | hhi
          · have hd2 : decide ((m2 : Int) < (m : Int)) = true := by simp; omega
            rw [Nat.max_eq_left (by omega)] at R2
            go_wp2_with (first | (go_at_call 8; refine H3.mono ?_; clear H3; rintro e w' ⟨rfl, hw⟩; have hw2 := hw.symm; clear hw; subst hw2) | (go_at_call 9; refine U2.mono ?_; clear U2; rintro e w' ⟨rfl, hw⟩; have hw2 := hw.symm; clear hw; subst hw2))
            refine R2.mono ?_
            rintro e w2 ⟨⟨rfl, hmz⟩, hbx2⟩
            have H4 := HELD.out w2 cm K m hmz
            clear R2
            go_wp2_with (go_at_call 8; refine H4.mono ?_; clear H4; rintro e w' ⟨rfl, hw⟩; have hw2 := hw.symm; clear hw; subst hw2)
            go_ret
            exact ⟨by simp, hb1w.trans ((hbw.trans hbx2).mono hBw.out)⟩
          · have hd2 : decide ((m2 : Int) < (m : Int)) = false := by simp; omega
            rw [Nat.max_eq_right (by omega)] at R2
            go_wp2_with (first | (go_at_call 8; refine H3.mono ?_; clear H3; rintro e w' ⟨rfl, hw⟩; have hw2 := hw.symm; clear hw; subst hw2) | (go_at_call 9; refine U2.mono ?_; clear U2; rintro e w' ⟨rfl, hw⟩; have hw2 := hw.symm; clear hw; subst hw2))
            refine R2.mono ?_
            rintro e w2 ⟨⟨rfl, hmz⟩, hbx2⟩
            have H4 := HELD.out w2 cm K m2 hmz
            clear R2
            go_wp2_with (go_at_call 8; refine H4.mono ?_; clear H4; rintro e w' ⟨rfl, hw⟩; have hw2 := hw.symm; clear hw; subst hw2)
            go_ret
            exact ⟨by simp, hb1w.trans ((hbw.trans hbx2).mono hBw.out)⟩
end Go.Proofs.Qxb6614570aFmt
