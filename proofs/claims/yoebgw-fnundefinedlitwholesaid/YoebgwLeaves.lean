/-
  THE LEAVES: the three methods of parser.UndefinedLit that the two laws call, each by a contract of its own; and the plain arithmetic that the laws rest on.
-/
import Derived.Test.YoebgwRows
import Derived.WalkKit
import Derived.WalkSpells
import Derived.RowKit3
namespace Go.Proofs.Yoebgw
open Go.RowKit

/-! ### The contracts -/
set_option maxHeartbeats 400000 in
/-- '(*parser.UndefinedLit).Pos': the field, read. -/
theorem pos_any (b : Nat) (a : Int) (w : World) (hc : w.cell? ⟨b, 0, none⟩ = some (.int .i64 a)) :
    Calls Ebgg.prog 5 #[.pointer (some ⟨b, 0, none⟩)] w fun e w' => e = .returned (.int .i64 a) ∧ w' = w := by
  go_enter Ebgg.func5, Ebgg.ntmps5
  go_wp2
  go_ret
  exact ⟨rfl, rfl⟩

set_option maxHeartbeats 400000 in
/-- '(*parser.UndefinedLit).End': the field, read, and 9 more, wrapped. -/
theorem end_any (b : Nat) (a : Int) (w : World) (hc : w.cell? ⟨b, 0, none⟩ = some (.int .i64 a)) :
    Calls Ebgg.prog 7 #[.pointer (some ⟨b, 0, none⟩)] w fun e w' => e = .returned (.int .i64 (wrap64 (a + 9))) ∧ w' = w := by
  go_enter Ebgg.func7, Ebgg.ntmps7
  go_wp2
  go_ret
  exact ⟨rfl, rfl⟩

set_option maxHeartbeats 400000 in
/-- '(*parser.UndefinedLit).String': the constant. (It reads nothing.) -/
theorem str_any (b : Nat) (w : World) :
    Calls Ebgg.prog 6 #[.pointer (some ⟨b, 0, none⟩)] w fun e w' => e = .returned (.string ⟨#[117, 110, 100, 101, 102, 105, 110, 101, 100]⟩) ∧ w' = w := by
  go_enter Ebgg.func6, Ebgg.ntmps6
  go_wp2
  go_ret
  exact ⟨rfl, rfl⟩

/-! ### The plain laws: no Go in sight -/
/-- A difference of two shifted positions is the difference of the positions, wraps and all. -/
theorem shift_diff (a b : Int) : wrap64 (wrap64 (a + 9) - wrap64 (b + 9)) = wrap64 (a - b) := by
  unfold wrap64
  omega
/-- The end less the start is 9, wraps and all. -/
theorem span_nine (a : Int) : wrap64 (wrap64 (a + 9) - a) = 9 := by
  unfold wrap64
  omega
/-- Where the later end does not wrap the shift keeps the order. -/
theorem shift_mono (a b : Int) (h0 : -9223372036854775808 ≤ a) (h1 : a ≤ b) (h2 : b ≤ 9223372036854775798) : ¬ wrap64 (b + 9) < wrap64 (a + 9) := by
  unfold wrap64
  omega
/-- Where the end does not wrap it lies strictly behind the start. -/
theorem end_after (a : Int) (h0 : -9223372036854775808 ≤ a) (h2 : a ≤ 9223372036854775798) : a < wrap64 (a + 9) := by
  unfold wrap64
  omega
/-- The bounds of a well formed int. -/
theorem bounds (a : Int) (h : (Lit.int .i64 a).wf = true) : -9223372036854775808 ≤ a ∧ a ≤ 9223372036854775807 := by
  simpa [Lit.wf, IntKind.min, IntKind.max, IntKind.signed, IntKind.bits] using h
end Go.Proofs.Yoebgw
