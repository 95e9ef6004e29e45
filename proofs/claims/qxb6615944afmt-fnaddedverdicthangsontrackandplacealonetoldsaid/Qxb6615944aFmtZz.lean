import Derived.Test.Qxb6615944aFmtAccept
namespace Go.Proofs.Qxb6615944aFmt
open Go.RowKit Go.Extern.Stop Go.Stop Go.Extern
attribute [local go_sem] run_store_float

/-- 'added' refuses -/
theorem added_no (F : Interp) (rid tid nm pj : ByteArray) (sp dp : Option Addr) (bk : Nat) (kt : ByteArray) (w : World) (hF : F.answers w.tape) (hbk : bk < w.heap.size) (hk : w.cell? ⟨bk, 0, none⟩ = some (.string kt))
    (h : tid.toList.isEmpty = true ∨ (tid.toList == kt.toList) = false ∨ sp = none ∨ dp = none) :
    Calls Tryf.prog 9 #[prop rid tid nm sp dp, .string pj, .func (.func 10) #[] #[.pointer (some ⟨bk, 0, none⟩)]] w fun e w' => Refused w e w' := by
  cases h0 : tid.toList.isEmpty with
  | true => exact added_noTrack F rid tid nm pj sp dp _ w hF h0
  | false =>
    cases h1 : tid.toList == kt.toList with
    | false => exact added_unknown F rid tid nm pj sp dp bk kt w hF h0 h1 hbk hk
    | true =>
      cases sp with
      | none => exact added_noStart F rid tid nm pj dp bk kt w hF h0 h1 hbk hk
      | some sa =>
        have : dp = none := by simpa [h0, h1] using h
        subst this
        exact added_noLength F rid tid nm pj sa bk kt w hF h0 h1 hbk hk

set_option maxHeartbeats 400000 in
/-- 'ZZb1Added' refuses -/
theorem zz_no (F : Interp) (rid tid nm pj : ByteArray) (sp dp : Option Addr) (kt : ByteArray) (w : World) (hF : F.answers w.tape)
    (h : tid.toList.isEmpty = true ∨ (tid.toList == kt.toList) = false ∨ sp = none ∨ dp = none) :
    Calls Tryf.prog 6 #[prop rid tid nm sp dp, .string pj, .string kt] w fun e w' => Refused w e w' := by
  have H : Hid (tid.toList.isEmpty = true ∨ (tid.toList == kt.toList) = false ∨ sp = none ∨ dp = none) := h
  clear h
  go_enter Tryf.func6, Tryf.ntmps6
  go_wp2_with (go_at_call 9; refine (added_no F rid tid nm pj sp dp (w.heap.size + 1) kt _ ?f0 ?c0 ?c1 H.out).mono ?k)
  case f0 => exact hF
  case c0 => simp
  case c1 => go_simp
  case k =>
    rintro e w1 ⟨⟨a, rfl⟩, hb⟩
    obtain ⟨hc, hf⟩ := bcell hb
    have hz : w.heap.size + 2 < w1.heap.size := by have := hb.size; simp at this; omega
    go_wp2
    try simp only [Exit.inBlock, Exit.then]
    refine bodyPost_ret (v := .tuple #[reg ⟨#[]⟩ ⟨#[]⟩ ⟨#[]⟩ 0 0, .iface 49 (.pointer (some a))]) (by simp [results, Tryf.results6, go_sem, hc]) rfl ⟨⟨a, rfl⟩, ?_⟩
    exact fiveSet (three hb) (by omega) _ _ _ _ _

set_option maxHeartbeats 400000 in
/-- 'ZZb1Added' accepts -/
theorem zz_yes (rid tid nm pj : ByteArray) (sb so db dO s d : Nat) (kt : ByteArray) (w : World) (h0 : tid.toList.isEmpty = false) (h1 : (tid.toList == kt.toList) = true)
    (hsb : sb < w.heap.size) (hs : w.cell? ⟨sb, so, none⟩ = some (.float .f64 s)) (hdb : db < w.heap.size) (hd : w.cell? ⟨db, dO, none⟩ = some (.float .f64 d)) :
    Calls Tryf.prog 6 #[prop rid tid nm (some ⟨sb, so, none⟩) (some ⟨db, dO, none⟩), .string pj, .string kt] w fun e w' => Accepted rid tid nm s d w e w' := by
  have hs1 : sb < w.heap.size + 1 := by omega
  have hs2 : sb < w.heap.size + 1 + 1 := by omega
  have hs3 : sb < w.heap.size + 1 + 1 + 1 := by omega
  have hd1 : db < w.heap.size + 1 := by omega
  have hd2 : db < w.heap.size + 1 + 1 := by omega
  have hd3 : db < w.heap.size + 1 + 1 + 1 := by omega
  go_enter Tryf.func6, Tryf.ntmps6
  go_wp2_with (go_at_call 9; refine (added_yes rid tid nm pj sb so db dO s d (w.heap.size + 1) kt _ h0 h1 ?c0 ?c1 ?c2 ?c3 ?c4 ?c5).mono ?k)
  case c0 => simp
  case c1 => go_simp
  case c2 => simp; omega
  case c3 => go_simp
  case c4 => simp; omega
  case c5 => go_simp
  case k =>
    rintro e w1 ⟨rfl, hb⟩
    obtain ⟨hc, hf⟩ := bcell hb
    have hz : w.heap.size + 2 < w1.heap.size := by have := hb.size; simp at this; omega
    go_wp2
    try simp only [Exit.inBlock, Exit.then]
    refine bodyPost_ret (v := .tuple #[reg rid tid nm s d, .nilIface]) (by simp [results, Tryf.results6, go_sem, hc]) rfl ⟨rfl, ?_⟩
    exact fiveSet (three hb) (by omega) _ _ _ _ _

/-- 'zzvb1SameFloat' at one float twice -/
theorem same_any (x : Nat) (w : World) :
    Calls Tryf.prog 7 #[.float .f64 x, .float .f64 x] w fun e w' => e = .returned (.bool true) ∧ w' = w := by
  cases hx : (FloatKind.f64.format.order x x == some .eq) with
  | true =>
    go_enter Tryf.func7, Tryf.ntmps7
    go_wp2
    go_ret
    exact ⟨rfl, rfl⟩
  | false =>
    have hn : (FloatKind.f64.format.order x x != some .eq) = true := by simp [bne, hx]
    go_enter Tryf.func7, Tryf.ntmps7
    go_wp2
    go_ret
    exact ⟨rfl, rfl⟩
end Go.Proofs.Qxb6615944aFmt
