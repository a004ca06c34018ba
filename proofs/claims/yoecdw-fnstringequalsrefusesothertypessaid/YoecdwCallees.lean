/-
  The small callees on the road of FnStringEqualsRefusesOtherTypes: the length test (9) and (*String).Equals (7) against what is no *String: what each call answers, and that the world stands.
-/
import Derived.Test.YoecdwRows
import Derived.WalkKit
import Derived.WalkSpells
import Derived.Deep.QuietTactic
import Derived.BigQuiet
namespace Go.Proofs.Yoecdw
open Go.RowKit

/-- zzBytes_..: a short string passes. -/
theorem short_yes (s : ByteArray) (n r : Int) (w : World) (h : s.size ≤ 1048576) :
    Calls Ecdg.prog 9 #[.string s, .int .i64 n, .int .i32 r] w fun e w' => e = .returned (.bool true) ∧ w' = w := by
  go_enter Ecdg.func9, Ecdg.ntmps9
  go_wp2
  go_ret
  exact ⟨rfl, rfl⟩

/-- zzBytes_..: a long string does not. -/
theorem short_no (s : ByteArray) (n r : Int) (w : World) (h : 1048576 < s.size) (hm : s.size ≤ maxLen) :
    Calls Ecdg.prog 9 #[.string s, .int .i64 n, .int .i32 r] w fun e w' => e = .returned (.bool false) ∧ w' = w := by
  unfold maxLen at hm
  go_enter Ecdg.func9, Ecdg.ntmps9
  go_wp2
  go_ret
  exact ⟨rfl, rfl⟩

/-- 't, ok := x.(*String)': x is nil. -/
theorem assert_nil (w : World) : (Instr.typeAssert .nilIface 30 23 true).run Ecdg.prog w = .ok (.tuple #[.pointer none, .bool false]) w := by kernel_rfl

/-- x holds a value of another type. -/
theorem assert_other (t : TypeId) (v : Value) (h : ¬ t = 23) (w : World) : (Instr.typeAssert (.iface t v) 30 23 true).run Ecdg.prog w = .ok (.tuple #[.pointer none, .bool false]) w := by
  have hz : (zeroValue 23).run Ecdg.prog w = .ok (.pointer none) w := by kernel_rfl
  simp [Instr.typeAssert, run_underlying Ecdg.underlying23, h, hz]

/-- x holds a *String. -/
theorem assert_same (v : Value) (w : World) : (Instr.typeAssert (.iface 23 v) 30 23 true).run Ecdg.prog w = .ok (.tuple #[v, .bool true]) w := by
  simp [Instr.typeAssert, run_underlying Ecdg.underlying23]

/-- Equals against nil. -/
theorem equals_nil (p : Value) (w : World) :
    Calls Ecdg.prog 7 #[p, .nilIface] w fun e w' => e = .returned (.bool false) ∧ w' = w := by
  have ha := assert_nil
  go_enter Ecdg.func7, Ecdg.ntmps7
  go_wp2
  go_ret
  exact ⟨rfl, rfl⟩

/-- Equals against a value of another type. -/
theorem equals_other (p : Value) (t : TypeId) (v : Value) (h : ¬ t = 23) (w : World) :
    Calls Ecdg.prog 7 #[p, .iface t v] w fun e w' => e = .returned (.bool false) ∧ w' = w := by
  have ha := assert_other t v h
  go_enter Ecdg.func7, Ecdg.ntmps7
  go_wp2
  go_ret
  exact ⟨rfl, rfl⟩

end Go.Proofs.Yoecdw
