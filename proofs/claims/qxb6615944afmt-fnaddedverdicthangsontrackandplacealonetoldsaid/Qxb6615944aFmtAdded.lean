import Derived.Test.Qxb6615944aFmtErr
import Derived.Deep.RegionWith
import Derived.WalkLawsBesides
namespace Go.Proofs.Qxb6615944aFmt
open Go.RowKit Go.Extern.Stop Go.Stop Go.Extern

/-- a store of a float: the kit's walk has no law for it -/
theorem run_store_float {P : Program} {w : World} {a : Addr} {m : Mode} (k : FloatKind) (n : Nat) : (store a (.float k n) m).run P w = stored P w a (.float k n) m := run_store P w a _ m rfl
attribute [local go_sem] run_store_float

theorem bcell {W w1 : World} (hb : Below W.heap.size W w1) : (∀ b o, b < W.heap.size → w1.cell? ⟨b, o, none⟩ = W.cell? ⟨b, o, none⟩) ∧ (∀ b o, b < W.heap.size → w1.frozen? ⟨b, o, none⟩ = W.frozen? ⟨b, o, none⟩) :=
  ⟨fun b o h => hb.cell (p := ⟨b, o, none⟩) h, fun b o h => hb.frozen (p := ⟨b, o, none⟩) h⟩

/-- a ProposedRegion without contents -/
abbrev prop (rid tid nm : ByteArray) (sp dp : Option Addr) : Value :=
  .agg #[.string rid, .string tid, .string nm, .pointer sp, .pointer dp, .slice none 0 0, .slice none 0 0, .slice none 0 0, .slice none 0 0]
/-- an AddedRegion -/
abbrev reg (rid tid nm : ByteArray) (s d : Nat) : Value := .agg #[.string rid, .string tid, .string nm, .float .f64 s, .float .f64 d]
/-- refused: the zero region and some error -/
def Refused (w : World) (e : Ending) (w' : World) : Prop :=
  (∃ a, e = .returned (.tuple #[reg ⟨#[]⟩ ⟨#[]⟩ ⟨#[]⟩ 0 0, .iface 49 (.pointer (some a))])) ∧ Below w.heap.size w w'

theorem three {w w1 : World} {o1 o2 o3 : Obj} (hb : Below (((w.alloc o1).alloc o2).alloc o3).heap.size (((w.alloc o1).alloc o2).alloc o3) w1) : Below w.heap.size w w1 :=
  ((((Below.refl _ w).alloc (Nat.le_refl _) o1).alloc (by simp) o2).alloc (by simp; omega) o3).trans (hb.mono (by simp; omega))
theorem four {w w1 : World} {o1 o2 o3 o4 : Obj} (hb : Below ((((w.alloc o1).alloc o2).alloc o3).alloc o4).heap.size ((((w.alloc o1).alloc o2).alloc o3).alloc o4) w1) : Below w.heap.size w w1 :=
  (((((Below.refl _ w).alloc (Nat.le_refl _) o1).alloc (by simp) o2).alloc (by simp; omega) o3).alloc (by simp; omega) o4).trans (hb.mono (by simp; omega))
theorem fiveSet {w w1 : World} {b : Nat} (h : Below w.heap.size w w1) (hb : w.heap.size ≤ b) (v0 v1 v2 v3 v4 : Value) :
    Below w.heap.size w (((((w1.setCell ⟨b, 0, none⟩ v0).setCell ⟨b, 1, none⟩ v1).setCell ⟨b, 2, none⟩ v2).setCell ⟨b, 3, none⟩ v3).setCell ⟨b, 4, none⟩ v4) :=
  ((((h.setCell (p := ⟨b, 0, none⟩) hb _).setCell (p := ⟨b, 1, none⟩) hb _).setCell (p := ⟨b, 2, none⟩) hb _).setCell (p := ⟨b, 3, none⟩) hb _).setCell (p := ⟨b, 4, none⟩) hb _

set_option maxHeartbeats 400000 in
theorem added_noTrack (F : Interp) (rid tid nm pj : ByteArray) (sp dp : Option Addr) (kn : Value) (w : World) (hF : F.answers w.tape) (h0 : tid.toList.isEmpty = true) :
    Calls Tryf.prog 9 #[prop rid tid nm sp dp, .string pj, kn] w fun e w' => Refused w e w' := by
  go_enter Tryf.func9, Tryf.ntmps9
  go_wp2_with (go_at_call 11; refine (missing_any F _ rid pj w.heap.size (w.heap.size + 1) _ ?f0 ?c0 ?c1).mono ?k)
  case f0 => exact hF
  case c0 => go_simp
  case c1 => go_simp
  case k =>
    rintro e w1 ⟨⟨a, rfl⟩, hb⟩
    obtain ⟨hc, hf⟩ := bcell hb
    have hz : w.heap.size + 2 < w1.heap.size := by have := hb.size; simp at this; omega
    go_wp2
    try simp only [Exit.inBlock, Exit.then]
    refine bodyPost_ret (v := .tuple #[reg ⟨#[]⟩ ⟨#[]⟩ ⟨#[]⟩ 0 0, .iface 49 (.pointer (some a))]) (by simp [results, Tryf.results9, go_sem, hc]) rfl ⟨⟨a, rfl⟩, ?_⟩
    exact fiveSet (three hb) (by omega) _ _ _ _ _

set_option maxHeartbeats 400000 in
theorem added_noStart (F : Interp) (rid tid nm pj : ByteArray) (dp : Option Addr) (bk : Nat) (kt : ByteArray) (w : World) (hF : F.answers w.tape) (h0 : tid.toList.isEmpty = false) (h1 : (tid.toList == kt.toList) = true) (hbk : bk < w.heap.size) (hk : w.cell? ⟨bk, 0, none⟩ = some (.string kt)) :
    Calls Tryf.prog 9 #[prop rid tid nm none dp, .string pj, .func (.func 10) #[] #[.pointer (some ⟨bk, 0, none⟩)]] w fun e w' => Refused w e w' := by
  have hk1 : bk < w.heap.size + 1 := by omega
  have hk2 : bk < w.heap.size + 1 + 1 := by omega
  have hk3 : bk < w.heap.size + 1 + 1 + 1 := by omega
  go_enter Tryf.func9, Tryf.ntmps9
  go_wp2_with (first | (go_at_call 11; refine (missing_any F _ rid pj w.heap.size (w.heap.size + 1) _ ?f0 ?c0 ?c1).mono ?k) | go_in)
  case f0 => exact hF
  case c0 => go_simp
  case c1 => go_simp
  case k =>
    rintro e w1 ⟨⟨a, rfl⟩, hb⟩
    obtain ⟨hc, hf⟩ := bcell hb
    have hz : w.heap.size + 2 < w1.heap.size := by have := hb.size; simp at this; omega
    go_wp2
    try simp only [Exit.inBlock, Exit.then]
    refine bodyPost_ret (v := .tuple #[reg ⟨#[]⟩ ⟨#[]⟩ ⟨#[]⟩ 0 0, .iface 49 (.pointer (some a))]) (by simp [results, Tryf.results9, go_sem, hc]) rfl ⟨⟨a, rfl⟩, ?_⟩
    exact fiveSet (three hb) (by omega) _ _ _ _ _

set_option maxHeartbeats 400000 in
theorem added_noLength (F : Interp) (rid tid nm pj : ByteArray) (sa : Addr) (bk : Nat) (kt : ByteArray) (w : World) (hF : F.answers w.tape) (h0 : tid.toList.isEmpty = false) (h1 : (tid.toList == kt.toList) = true) (hbk : bk < w.heap.size) (hk : w.cell? ⟨bk, 0, none⟩ = some (.string kt)) :
    Calls Tryf.prog 9 #[prop rid tid nm (some sa) none, .string pj, .func (.func 10) #[] #[.pointer (some ⟨bk, 0, none⟩)]] w fun e w' => Refused w e w' := by
  have hk1 : bk < w.heap.size + 1 := by omega
  have hk2 : bk < w.heap.size + 1 + 1 := by omega
  have hk3 : bk < w.heap.size + 1 + 1 + 1 := by omega
  go_enter Tryf.func9, Tryf.ntmps9
  go_wp2_with (first | (go_at_call 11; refine (missing_any F _ rid pj w.heap.size (w.heap.size + 1) _ ?f0 ?c0 ?c1).mono ?k) | go_in)
  case f0 => exact hF
  case c0 => go_simp
  case c1 => go_simp
  case k =>
    rintro e w1 ⟨⟨a, rfl⟩, hb⟩
    obtain ⟨hc, hf⟩ := bcell hb
    have hz : w.heap.size + 2 < w1.heap.size := by have := hb.size; simp at this; omega
    go_wp2
    try simp only [Exit.inBlock, Exit.then]
    refine bodyPost_ret (v := .tuple #[reg ⟨#[]⟩ ⟨#[]⟩ ⟨#[]⟩ 0 0, .iface 49 (.pointer (some a))]) (by simp [results, Tryf.results9, go_sem, hc]) rfl ⟨⟨a, rfl⟩, ?_⟩
    exact fiveSet (three hb) (by omega) _ _ _ _ _

set_option maxHeartbeats 400000 in
theorem added_unknown (F : Interp) (rid tid nm pj : ByteArray) (sp dp : Option Addr) (bk : Nat) (kt : ByteArray) (w : World) (hF : F.answers w.tape) (h0 : tid.toList.isEmpty = false) (h1 : (tid.toList == kt.toList) = false) (hbk : bk < w.heap.size) (hk : w.cell? ⟨bk, 0, none⟩ = some (.string kt)) :
    Calls Tryf.prog 9 #[prop rid tid nm sp dp, .string pj, .func (.func 10) #[] #[.pointer (some ⟨bk, 0, none⟩)]] w fun e w' => Refused w e w' := by
  have hk1 : bk < w.heap.size + 1 := by omega
  have hk2 : bk < w.heap.size + 1 + 1 := by omega
  have hk3 : bk < w.heap.size + 1 + 1 + 1 := by omega
  go_enter Tryf.func9, Tryf.ntmps9
  go_wp2_with (first | (go_at_call 12; refine (errorfB F rid pj tid (w.heap.size + 1 + 1 + 1) _ ?f0 ?c0 ?c1 ?c2).mono ?k) | go_in)
  case f0 => exact hF
  case c0 => go_simp
  case c1 => go_simp
  case c2 => go_simp
  case k =>
    rintro e w1 ⟨⟨a, rfl⟩, hb⟩
    obtain ⟨hc, hf⟩ := bcell hb
    have hz : w.heap.size + 3 < w1.heap.size := by have := hb.size; simp at this; omega
    go_wp2
    try simp only [Exit.inBlock, Exit.then]
    refine bodyPost_ret (v := .tuple #[reg ⟨#[]⟩ ⟨#[]⟩ ⟨#[]⟩ 0 0, .iface 49 (.pointer (some a))]) (by simp [results, Tryf.results9, go_sem, hc]) rfl ⟨⟨a, rfl⟩, ?_⟩
    exact fiveSet (four hb) (by omega) _ _ _ _ _

end Go.Proofs.Qxb6615944aFmt
