import Derived.Test.Qxb6600362aRows
import Derived.WalkKit
import Derived.ProofKit
import Derived.OpenShut
import Derived.WalkLawsBesides
namespace Go.Proofs.Qxb6600362a
open Go.ChangeShapes Go.WideShapes Go.ChangeAt Go.RowKit

/-- The walk, the sign of a0 told in the walk's own tests. -/
theorem tri_at (a0 : Int) (b1 b2 b3 b4 b5 b6 : Bool) (w : World) (h1 : (a0 == 0) = b1) (h2 : (a0 != 0) = b2) (h3 : decide (a0 < 0) = b3) (h4 : decide (a0 ≤ 0) = b4) (h5 : decide (0 < a0) = b5) (h6 : decide (0 ≤ a0) = b6)
    (hc : (b1, b2, b3, b4, b5, b6) = (false, true, true, true, false, false) ∨ (b1, b2, b3, b4, b5, b6) = (true, false, false, true, false, true) ∨ (b1, b2, b3, b4, b5, b6) = (false, true, false, false, true, true)) :
    Calls Try.prog 4 #[.int .i64 a0] w fun e w' => e = .returned (.bool true) ∧ Grown w w' := by
  rcases hc with hc | hc | hc
  all_goals
    simp only [Prod.mk.injEq] at hc
    obtain ⟨rfl, rfl, rfl, rfl, rfl, rfl⟩ := hc
    go_enter Try.func4, Try.ntmps4
    go_wp2
    go_ret
    exact ⟨rfl, by repeat (first | exact Grown.refl _ | apply Grown.drew | apply Grown.alloc)⟩

theorem tri_walk (a0 : Int) (w : World) :
    Calls Try.prog 4 #[.int .i64 a0] w fun e w' => e = .returned (.bool true) ∧ Grown w w' := by
  refine tri_at a0 _ _ _ _ _ _ w rfl rfl rfl rfl rfl rfl ?_
  rcases (show a0 < 0 ∨ a0 = 0 ∨ 0 < a0 by omega) with h | h | h
  · exact .inl (by simp; omega)
  · exact .inr (.inl (by simp; omega))
  · exact .inr (.inr (by simp; omega))
end Go.Proofs.Qxb6600362a
