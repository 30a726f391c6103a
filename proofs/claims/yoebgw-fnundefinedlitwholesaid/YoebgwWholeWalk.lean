/-
  THE WALK of 'zzlaws_parser_b25.FnUndefinedLitWhole': it returns true for every int, and lays one new block.
-/
import Derived.Test.YoebgwLeaves
namespace Go.Proofs.Yoebgw
open Go.RowKit

/-- The world in which the literal lies: its cell. -/
theorem one_cell (w : World) (x : Value) (t : TypeId) : (w.alloc (.cells #[x] t)).cell? ⟨w.heap.size, 0, none⟩ = some x := by
  simp [go_sem]

set_option maxHeartbeats 400000 in
theorem whole_walk (a0 : Int) (w0 : (Lit.int .i64 a0).wf = true) (w : World) :
    Calls Ebgg.prog 3 #[.int .i64 a0] w fun e w' => e = .returned (.bool true) ∧ Grown w w' := by
  have k := one_cell w (.int .i64 a0) 25
  have e1 : (wrap64 (wrap64 (a0 + 9) - a0) == 9) = true := by rw [span_nine]; simp
  by_cases c2 : a0 ≤ 9223372036854775798
  · have m1 : a0 < wrap64 (a0 + 9) := end_after a0 (bounds a0 w0).1 c2
    clear w0
    go_enter Ebgg.func3, Ebgg.ntmps3
    go_wp2_with fail
    refine (pos_any _ a0 _ k).mono ?_
    rintro e w' ⟨rfl, rfl⟩
    go_wp2_with fail
    refine (str_any _ _).mono ?_
    rintro e w' ⟨rfl, rfl⟩
    go_wp2_with fail
    refine (end_any _ a0 _ k).mono ?_
    rintro e w' ⟨rfl, rfl⟩
    go_wp2_with fail
    refine (pos_any _ a0 _ k).mono ?_
    rintro e w' ⟨rfl, rfl⟩
    go_wp2_with fail
    refine (end_any _ a0 _ k).mono ?_
    rintro e w' ⟨rfl, rfl⟩
    go_wp2_with fail
    refine (pos_any _ a0 _ k).mono ?_
    rintro e w' ⟨rfl, rfl⟩
    go_wp2
    go_ret
    exact ⟨rfl, (Grown.refl _).alloc _ _⟩
  · clear w0
    go_enter Ebgg.func3, Ebgg.ntmps3
    go_wp2_with fail
    refine (pos_any _ a0 _ k).mono ?_
    rintro e w' ⟨rfl, rfl⟩
    go_wp2_with fail
    refine (str_any _ _).mono ?_
    rintro e w' ⟨rfl, rfl⟩
    go_wp2_with fail
    refine (end_any _ a0 _ k).mono ?_
    rintro e w' ⟨rfl, rfl⟩
    go_wp2_with fail
    refine (pos_any _ a0 _ k).mono ?_
    rintro e w' ⟨rfl, rfl⟩
    go_wp2
    go_ret
    exact ⟨rfl, (Grown.refl _).alloc _ _⟩
end Go.Proofs.Yoebgw
