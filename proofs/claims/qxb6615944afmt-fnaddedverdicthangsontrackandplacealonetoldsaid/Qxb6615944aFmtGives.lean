import Derived.Test.Qxb6615944aFmtZz
import Derived.Test.Qxb6615944aFmtBytes
import Derived.Deep.DeepCutAuto
namespace Go.Proofs.Qxb6615944aFmt
open Go.RowKit Go.Extern.Stop Go.Stop Go.Extern
attribute [local go_sem] run_store_float

/-- a pointer to a float64: nil, or a cell of old memory that holds one -/
def PtrF (w : World) (p : Option Addr) : Prop := p = none ∨ ∃ b o x, p = some ⟨b, o, none⟩ ∧ b < w.heap.size ∧ w.cell? ⟨b, o, none⟩ = some (.float .f64 x)

/-- when 'added' must say yes -/
def ok (tid kt : ByteArray) (sp dp : Option Addr) : Bool := !tid.toList.isEmpty && (tid.toList == kt.toList) && sp.isSome && dp.isSome

theorem order_zero : (FloatKind.f64.format.order 0 0 == some .eq) = true := by kernel_rfl

set_option maxHeartbeats 2000000 in
set_option maxRecDepth 100000 in
theorem gives_no (F : Interp) (rid tid nm pj kt : ByteArray) (sp dp : Option Addr) (w : World) (hF : F.answers w.tape) (ha : rid.size ≤ maxLen) (hb : tid.size ≤ maxLen) (hc : nm.size ≤ maxLen) (hd : pj.size ≤ maxLen) (hf : kt.size ≤ maxLen)
    (hsp : PtrF w sp) (hdp : PtrF w dp) (h : tid.toList.isEmpty = true ∨ (tid.toList == kt.toList) = false ∨ sp = none ∨ dp = none) :
    Calls Tryf.prog 3 #[.string rid, .string tid, .string nm, .pointer sp, .pointer dp, .string pj, .string kt] w
      fun e w' => e = .returned (.bool true) ∧ Below w.heap.size w w' := by
  have Z := zzGives_any rid tid nm pj kt (.pointer sp) (.pointer dp) w ha hb hc hd hf
  have H : Hid (tid.toList.isEmpty = true ∨ (tid.toList == kt.toList) = false ∨ sp = none ∨ dp = none) := h
  clear h
  unfold maxLen at *
  go_enter Tryf.func3, Tryf.ntmps3
  go_upto_region 5 with (go_at_call 5; refine Z.mono ?_; rintro e w' ⟨r, rfl, hw⟩; have hw2 := hw.symm; clear hw; subst hw2)
  all_goals first | (go_ret; exact ⟨rfl, Below.refl _ _⟩) | skip
  clear Z
  go_cut [15] (fun a wx => a = .bool false ∧ wx = w)
  case first =>
    cases h0 : tid.toList.isEmpty with
    | true =>
      go_wp2
      go_meet
      case rel => exact ⟨rfl, rfl⟩
    | false =>
      cases h1 : tid.toList == kt.toList with
      | false =>
        go_wp2
        go_meet
        case rel => exact ⟨rfl, rfl⟩
      | true =>
        cases sp with
        | none =>
          go_wp2
          go_meet
          case rel => exact ⟨rfl, rfl⟩
        | some sa =>
          have hdn : dp = none := by simpa [h0, h1] using H.out
          subst hdn
          go_wp2
          go_meet
          case rel => exact ⟨rfl, rfl⟩
  case rest =>
  obtain ⟨rfl, hw⟩ := hcut
  subst hw
  go_upto_if 74 with fail
  go_cut [16] (fun a wx => (∃ x, a = .float .f64 x) ∧ wx = wc)
  case first =>
    rcases hsp with rfl | ⟨b, o, x, rfl, hlt, hcell⟩
    · go_wp2
      go_meet
      case rel => exact ⟨⟨_, rfl⟩, rfl⟩
    · go_wp2
      go_meet
      case rel => exact ⟨⟨_, rfl⟩, rfl⟩
  case rest =>
  obtain ⟨⟨x, rfl⟩, hw⟩ := hcut
  subst hw
  go_upto_if 79 with fail
  go_cut [17] (fun a wx => (∃ x, a = .float .f64 x) ∧ wx = wc)
  case first =>
    rcases hdp with rfl | ⟨b, o, x, rfl, hlt, hcell⟩
    · go_wp2
      go_meet
      case rel => exact ⟨⟨_, rfl⟩, rfl⟩
    · go_wp2
      go_meet
      case rel => exact ⟨⟨_, rfl⟩, rfl⟩
  case rest =>
  obtain ⟨⟨y, rfl⟩, hw⟩ := hcut
  subst hw
  rename World => wB
  have z0 := order_zero
  go_wp2_with (go_at_call 6; refine (zz_no F rid tid nm pj sp dp kt _ ?f0 H.out).mono ?k)
  case f0 => exact hF
  case k =>
  rintro e w1 ⟨⟨a, rfl⟩, hb⟩
  have hz : wB.heap.size < w1.heap.size := by have := hb.size; simp at this; omega
  go_wp2
  go_ret
  exact ⟨rfl, (((Below.refl _ wB).alloc (Nat.le_refl _) _).trans (hb.mono (by simp))).alloc (by omega) _⟩

end Go.Proofs.Qxb6615944aFmt
