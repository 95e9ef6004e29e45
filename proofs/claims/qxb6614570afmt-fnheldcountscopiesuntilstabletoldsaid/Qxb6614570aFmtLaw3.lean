import Derived.Test.Qxb6614570aFmtNums
namespace Go.Proofs.Qxb6614570aFmt
open Go.RowKit
set_option linter.unusedVariables false

set_option maxHeartbeats 4000000 in
set_option maxRecDepth 100000 in
theorem law3_any (id n ask k : Int) (ao : Option Addr) (len cap : Nat) (S : Nat → Nat) (w : World) (hl : len ≤ maxLen) (hS : Nums w ao len S) (hao : ao = none → len = 0 ∧ cap = 0) (hT : Table w) (h0 : 0 < w.heap.size)
    (bid : id ≤ 9223372036854775807) (bn : n ≤ 9223372036854775807) (bk : k ≤ 9223372036854775807) :
    Calls Tryf.prog 3 #[.int .i64 id, .int .i64 n, .int .i64 ask, .int .i64 k, .slice ao len cap] w
      fun e w' => e = .returned (.bool true) ∧ Below w.heap.size w w' := by
  have q22 : ∀ (w : World) (a : Option Addr) (n c n' c' : Nat), (binOp .neq 22 (.slice a n c) (.slice none n' c')).run Tryf.prog w = .ok (.bool (!a.isNone)) w := fun w a n c n' c' => run_neq_slice_nil_any w _ _ a n c n' c' Tryf.underlying22
  obtain ⟨i0, hi, hz0, hz1, hz2⟩ := info_parts Tryf.info40
  have Z := zz5_any (.int .i64 id) (.int .i64 n) (.int .i64 ask) (.int .i64 k) ao len cap w hl
  unfold maxLen at hl
  go_enter Tryf.func3, Tryf.ntmps3
  go_upto_if 47 with (go_at_call 5; refine Z.mono ?_; rintro e w' ⟨⟨r, rfl, hr⟩, hw⟩; have hw2 := hw.symm; clear hw; subst hw2)
  all_goals try (go_ret; exact ⟨rfl, Below.refl _ _⟩)
  have l65 : len ≤ 65536 := by omega
  obtain ⟨id, rfl⟩ : ∃ m : Nat, id = (m : Int) := ⟨id.toNat, by omega⟩
  obtain ⟨n, rfl⟩ : ∃ m : Nat, n = (m : Int) := ⟨n.toNat, by omega⟩
  obtain ⟨k, rfl⟩ : ∃ m : Nat, k = (m : Int) := ⟨k.toNat, by omega⟩
  have hidn : id < n := by omega
  have hn6 : n ≤ 65536 := by omega
  have hk6 : k ≤ 65536 := by omega
  have hN : Hid (∀ i, i < len → S i ≤ 4294967295) := fun i h => (hS i h).1
  clear Z hr bid bn bk
  go_cut [4] (fun s wx => Copied w id len S s wx)
  case first =>
    cases ao with
    | none =>
      obtain ⟨rfl, rfl⟩ := hao rfl
      clear hao
      go_wp2
      go_meet
      case rel => exact ⟨⟨_, _, rfl⟩, .short _ _ _ (Nat.zero_le _) (by simp [numAt]), Below.refl _ _⟩
    | some ad =>
      clear hao
      go_wp2_with (at_make; refine wpList_make_full _ rfl _ _ 22 rfl w.heap.size 40 i0 _ 1 Tryf.underlying22 hi hz0 hz1 .i64 .i64 _ _ len rfl rfl rfl rfl ?_ ?_ (Nat.le_refl _) ?_)
      · rw [hz2]; omega
      · unfold maxLen; omega
      intro w1 hown1 hgrow1
      obtain ⟨cur, hg1, hlen1, hle1⟩ := ownsRow_block hown1
      have hb1 : Below w.heap.size w w1 := (Below.refl _ _).grown hgrow1 (Nat.le_refl _) (fun k e => by cases e)
      have hS1 := hS.later hb1
      clear hown1 hgrow1
      have HL : Hid (cur.length = len) := hlen1
      clear hlen1
      go_wp2_with (refine wpList_copy_splice rfl (.tmp 51) (.tmp 52) 22 22 rfl 40 Tryf.underlying22 Tryf.size40 _ _ _ _ _ _ rfl rfl w.heap.size 0 cur 40 hg1 (cellsOf len S) ?_ (fun _ => ⟨rfl, ad, rfl, hS1.src ad rfl⟩) ?_ (cellsOf_one len S) w.heap.size w hb1 (Nat.le_refl _) ?_)
      · rw [cellsOf_length]; exact (Nat.min_self len).symm
      · rw [cellsOf_length, HL.out]; omega
      intro w2 hg2 hb2
      have R := Copied.made (id := id) hN.out HL.out hg2 hb2
      clear hg1 hg2 hb1 hS1
      go_wp2
      go_meet
      case rel => exact R
  case rest =>
  obtain ⟨⟨a1, c1, rfl⟩, hst, hb1⟩ := hcut
  rename World => wA
  clear hS hN hao
  have hTA : Table wA := hT.of_block (hb1.block 0 h0)
  have hA0 : 0 < wA.heap.size := Nat.lt_of_lt_of_le h0 hb1.size
  obtain ⟨s, hs⟩ : ∃ s, s = numAt len S id := ⟨_, rfl⟩
  rw [← hs] at hst
  clear hs hT
  go_wp2_with (go_at_call 6; refine (zzNewM_any id n ask _ hidn hn6).mono ?_; rintro e w' ⟨cd, cs, ch, rfl, hok, hmc, hb2⟩)
  obtain ⟨L, hLM, hLB, hLid, hok, hmc⟩ : ∃ L : Lay, Hid (L.M = wA.heap.size + 1) ∧ Hid (L.B = wA.heap.size) ∧ Hid (L.id = id) ∧ L.Ok ∧ MC L w' none 0 0 0 := ⟨newLay wA id n cd cs ch, (rfl : (newLay wA id n cd cs ch).M = wA.heap.size + 1), (rfl : (newLay wA id n cd cs ch).B = wA.heap.size), (rfl : (newLay wA id n cd cs ch).id = id), hok, hmc⟩
  have hB0 : 0 < L.B := by rw [hLB.out]; exact hA0
  have SEND : ∀ (wr : World) (cm : Option Nat) (i : Nat), MC L wr cm i 0 0 → i < 131072 → Calls Tryf.prog 7 #[.pointer (some ⟨wA.heap.size + 1, 0, none⟩), .slice none 0 0] wr
      fun e w' => (∃ a, e = .returned (.tuple #[.pointer (some a), .nilIface])) ∧ (∃ C, MC L w' (some C) (i + 1) 0 0) ∧ Below L.B wr w' := fun wr cm i h hi => by rw [← hLM.out]; exact send_any L hok wr cm i 0 0 h hi
  have REL : ∀ (wr : World) (cm : Option Nat) (r : Nat), MC L wr cm k r r → Table wr → StableAt L.B wr id s (.slice a1 len c1) → Calls Tryf.prog 10 #[.pointer (some ⟨wA.heap.size + 1, 0, none⟩), .slice a1 len c1] wr
      fun e w' => (e = .returned (.tuple #[]) ∧ MC L w' cm k (upTo k r s) (upTo k r s)) ∧ Below L.B wr w' := fun wr cm r h ht hs => by rw [← hLM.out]; exact release_any L hok hB0 wr cm k r s a1 len c1 h ht (by rw [hLid.out]; exact hs)
  have HELD : ∀ (wr : World) (cm : Option Nat) (r : Nat), MC L wr cm k r r → Calls Tryf.prog 8 #[.pointer (some ⟨wA.heap.size + 1, 0, none⟩)] wr
      fun e w' => e = .returned (.int .i64 ((k : Int) - r)) ∧ w' = wr := fun wr cm r h => by rw [← hLM.out]; exact held_any L.M _ wr h.c5
  clear hi hz0 hz1 hz2 q22 hl
  go_loopw [13] (fun v wr => ∃ i : Nat, i ≤ k ∧ v = .int .i64 (i : Int) ∧ (∃ cm, MC L wr cm i 0 0) ∧ Below L.B wA wr) (fun v _ => k - (intOf v).toNat)
  case atStart => exact ⟨0, Nat.zero_le _, rfl, ⟨_, hmc⟩, by rw [hLB.out]; exact hb2⟩
  case round =>
    obtain ⟨i, hi, rfl, ⟨cm, hm⟩, hbw⟩ := hrel
    by_cases hlt : i < k
    · have SND := SEND wr cm i hm (by omega)
      clear SEND REL HELD hm
      have hd : decide ((i : Int) < (k : Int)) = true := by simp; omega
      go_wp2_with (go_at_call 7; refine SND.mono ?_; clear SND; rintro e w' ⟨⟨am, rfl⟩, hm2, hb3⟩)
      go_roundw
      case rel => exact ⟨i + 1, by omega, by simp, hm2.elim fun C h => ⟨_, h⟩, hbw.trans hb3⟩
      case measure => simp [intOf]; omega
    · obtain rfl : i = k := by omega
      have hd : decide ((i : Int) < (i : Int)) = false := by simp
      have hTw : Table wr := hTA.of_block (hbw.block 0 hB0)
      have hstB : StableAt L.B wA id s (.slice a1 len c1) := by rw [hLB.out]; exact hst
      have hbA : Below w.heap.size w wr := hb1.trans (hbw.mono (by rw [hLB.out]; exact hb1.size))
      have H1 := HELD wr cm 0 hm
      rw [show (i : Int) - ((0 : Nat) : Int) = (i : Int) by simp] at H1
      obtain ⟨m, hmm⟩ : ∃ m, Hid (m = min s i) := ⟨_, (rfl : min s i = min s i)⟩
      have U1 := upTo_any L.B id i s a1 len c1 wr (by omega) (by omega) l65 (hstB.below hbw)
      rw [← hmm.out] at U1
      have hmi : m ≤ i := by rw [hmm.out]; omega
      have hup1 : upTo i 0 s = m := by unfold upTo; rw [hmm.out]; omega
      have hup2 : upTo i m s = m := by unfold upTo; rw [hmm.out]; omega
      have R1 := REL wr cm 0 hm hTw (hstB.below hbw)
      rw [hup1] at R1
      have REL2 : Hid (∀ wx, Below L.B wr wx → MC L wx cm i m m → Calls Tryf.prog 10 #[.pointer (some ⟨wA.heap.size + 1, 0, none⟩), .slice a1 len c1] wx fun e w' => (e = .returned (.tuple #[]) ∧ MC L w' cm i m m) ∧ Below L.B wx w') := fun wx hbx hmx => by
        have := REL wx cm m hmx (hTw.of_block (hbx.block 0 hB0)) ((hstB.below hbw).below hbx)
        rw [hup2] at this; exact this
      have HELD2 : Hid (∀ wx, MC L wx cm i m m → Calls Tryf.prog 8 #[.pointer (some ⟨wA.heap.size + 1, 0, none⟩)] wx fun e w' => e = .returned (.int .i64 ((i : Int) - m)) ∧ w' = wx) := fun wx hmx => HELD wx cm m hmx
      have hBw : Hid (w.heap.size ≤ L.B) := by unfold Hid; rw [hLB.out]; exact hb1.size
      clear SEND REL HELD hm hTw hstB hst hup1 hup2 hTA hbw
      go_wp2_with (first | (go_at_call 8; refine H1.mono ?_; clear H1; rintro e w' ⟨rfl, hw⟩; have hw2 := hw.symm; clear hw; subst hw2) | (go_at_call 9; refine U1.mono ?_; clear U1; rintro e w' ⟨rfl, hw⟩; have hw2 := hw.symm; clear hw; subst hw2))
      refine R1.mono ?_
      rintro e w1 ⟨⟨rfl, hm1⟩, hbx1⟩
      have H2 := HELD2.out w1 hm1
      have R2 := REL2.out w1 hbx1 hm1
      clear R1
      go_wp2_with (go_at_call 8; refine H2.mono ?_; clear H2; rintro e w' ⟨rfl, hw⟩; have hw2 := hw.symm; clear hw; subst hw2)
      refine R2.mono ?_
      rintro e w2 ⟨⟨rfl, hm2⟩, hbx2⟩
      have H3 := HELD2.out w2 hm2
      clear R2
      go_wp2_with (go_at_call 8; refine H3.mono ?_; clear H3; rintro e w' ⟨rfl, hw⟩; have hw2 := hw.symm; clear hw; subst hw2)
      go_ret
      exact ⟨by simp, hbA.trans ((hbx1.trans hbx2).mono hBw.out)⟩
end Go.Proofs.Qxb6614570aFmt
