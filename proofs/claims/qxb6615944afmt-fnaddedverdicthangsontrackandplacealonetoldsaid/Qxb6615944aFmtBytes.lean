import Derived.Test.Qxb6615944aFmtProg
import Derived.WalkKit
namespace Go.Proofs.Qxb6615944aFmt
open Go.RowKit

/-- some Bool; the world stands -/
def SomeB (w : World) (e : Ending) (w' : World) : Prop := ∃ r : Bool, e = .returned (.bool r) ∧ w' = w

set_option maxHeartbeats 1000000 in
theorem zzGives_any (a b c d f : ByteArray) (sp dp : Value) (w : World) (ha : a.size ≤ maxLen) (hb : b.size ≤ maxLen) (hc : c.size ≤ maxLen) (hd : d.size ≤ maxLen) (hf : f.size ≤ maxLen) :
    Calls Tryf.prog 5 #[.string a, .string b, .string c, sp, dp, .string d, .string f] w fun e w' => SomeB w e w' := by
  unfold maxLen at *
  go_enter Tryf.func5, Tryf.ntmps5
  go_wp2
  all_goals
    go_ret
    exact ⟨_, rfl, rfl⟩

set_option maxHeartbeats 2000000 in
set_option maxRecDepth 100000 in
theorem zzVerdict_any (a b c d f g h i : ByteArray) (sp dp : Value) (w : World) (ha : a.size ≤ maxLen) (hb : b.size ≤ maxLen) (hc : c.size ≤ maxLen) (hd : d.size ≤ maxLen) (hf : f.size ≤ maxLen) (hg : g.size ≤ maxLen) (hh : h.size ≤ maxLen) (hi : i.size ≤ maxLen) :
    Calls Tryf.prog 8 #[.string a, .string b, .string c, .string d, .string f, .string g, .string h, sp, dp, .string i] w fun e w' => SomeB w e w' := by
  unfold maxLen at *
  go_enter Tryf.func8, Tryf.ntmps8
  go_wp2
  all_goals
    go_ret
    exact ⟨_, rfl, rfl⟩
end Go.Proofs.Qxb6615944aFmt
