/-
  THE WALK of 'zzlaws_parser_b25.FnUndefinedLitEndIsPosShift': it returns true for every two ints, and lays two new blocks.
-/
import Derived.Test.YoebgwLeaves
namespace Go.Proofs.Yoebgw
open Go.RowKit

/-- The world in which both literals lie: their two cells. -/
theorem two_cells (w : World) (x y : Value) (t : TypeId) :
    ((w.alloc (.cells #[x] t)).alloc (.cells #[y] t)).cell? ⟨w.heap.size, 0, none⟩ = some x ∧
    ((w.alloc (.cells #[x] t)).alloc (.cells #[y] t)).cell? ⟨w.heap.size + 1, 0, none⟩ = some y := by
  constructor <;> simp [go_sem]

set_option maxHeartbeats 400000 in
theorem shift_walk (a0 a1 : Int) (w0 : (Lit.int .i64 a0).wf = true) (w : World) :
    Calls Ebgg.prog 4 #[.int .i64 a0, .int .i64 a1] w fun e w' => e = .returned (.bool true) ∧ Grown w w' := by
  have k := two_cells w (.int .i64 a0) (.int .i64 a1) 25
  have e1 : (wrap64 (wrap64 (a0 + 9) - wrap64 (a1 + 9)) == wrap64 (a0 - a1)) = true := by rw [shift_diff]; simp
  by_cases c1 : a0 ≤ a1
  · by_cases c2 : a1 ≤ 9223372036854775798
    · have m1 : ¬ wrap64 (a1 + 9) < wrap64 (a0 + 9) := shift_mono a0 a1 (bounds a0 w0).1 c1 c2
      clear w0
      go_enter Ebgg.func4, Ebgg.ntmps4
      go_wp2_with fail
      refine (end_any _ a0 _ k.1).mono ?_
      rintro e w' ⟨rfl, rfl⟩
      go_wp2_with fail
      refine (end_any _ a1 _ k.2).mono ?_
      rintro e w' ⟨rfl, rfl⟩
      go_wp2_with fail
      refine (end_any _ a0 _ k.1).mono ?_
      rintro e w' ⟨rfl, rfl⟩
      go_wp2_with fail
      refine (end_any _ a1 _ k.2).mono ?_
      rintro e w' ⟨rfl, rfl⟩
      go_wp2
      go_ret
      exact ⟨rfl, ((Grown.refl _).alloc _ _).alloc _ _⟩
    · clear w0
      go_enter Ebgg.func4, Ebgg.ntmps4
      go_wp2_with fail
      refine (end_any _ a0 _ k.1).mono ?_
      rintro e w' ⟨rfl, rfl⟩
      go_wp2_with fail
      refine (end_any _ a1 _ k.2).mono ?_
      rintro e w' ⟨rfl, rfl⟩
      go_wp2
      go_ret
      exact ⟨rfl, ((Grown.refl _).alloc _ _).alloc _ _⟩
  · clear w0
    go_enter Ebgg.func4, Ebgg.ntmps4
    go_wp2_with fail
    refine (end_any _ a0 _ k.1).mono ?_
    rintro e w' ⟨rfl, rfl⟩
    go_wp2_with fail
    refine (end_any _ a1 _ k.2).mono ?_
    rintro e w' ⟨rfl, rfl⟩
    go_wp2
    go_ret
    exact ⟨rfl, ((Grown.refl _).alloc _ _).alloc _ _⟩
end Go.Proofs.Yoebgw
