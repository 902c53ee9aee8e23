import Derived.Test.Qxb6600362aRows
import Derived.WalkKit
import Derived.ProofKit
import Derived.OpenShut
import Derived.WalkLawsBesides
namespace Go.Proofs.Qxb6600362a
open Go.ChangeShapes Go.WideShapes Go.ChangeAt Go.RowKit

set_option maxHeartbeats 1000000 in
theorem flip_out (a0 : ByteArray) (a1 : Int) (w : World) (h0 : a0.size ≤ maxLen)
    (hout : 1048576 < a0.size ∨ ((a0.toList == [61, 61]) = false ∧ (a0.toList == [33, 61]) = false ∧ (a0.toList == [60]) = false ∧ (a0.toList == [60, 61]) = false ∧ (a0.toList == [62]) = false ∧ (a0.toList == [62, 61]) = false)) :
    Calls Try.prog 7 #[.string a0, .int .i64 a1] w fun e w' => e = .returned (.bool true) ∧ Grown w w' := by
  unfold maxLen at h0
  by_cases c1 : 1048576 < a0.size
  · clear hout
    go_enter Try.func7, Try.ntmps7
    go_wp2
    go_ret
    exact ⟨rfl, by repeat (first | exact Grown.refl _ | apply Grown.drew | apply Grown.alloc)⟩
  · obtain ⟨h1, h2, h3, h4, h5, h6⟩ := hout.resolve_left c1
    clear hout
    go_enter Try.func7, Try.ntmps7
    go_wp2
    go_ret
    exact ⟨rfl, by repeat (first | exact Grown.refl _ | apply Grown.drew | apply Grown.alloc)⟩

set_option maxHeartbeats 4000000 in
theorem flip_op (s : ByteArray) (hs : s = ⟨#[61, 61]⟩ ∨ s = ⟨#[33, 61]⟩ ∨ s = ⟨#[60]⟩ ∨ s = ⟨#[60, 61]⟩ ∨ s = ⟨#[62]⟩ ∨ s = ⟨#[62, 61]⟩) (a0 : Int) (b1 b2 b3 b4 b5 b6 : Bool) (w : World) (h1 : (a0 == 0) = b1) (h2 : (a0 != 0) = b2) (h3 : decide (a0 < 0) = b3) (h4 : decide (a0 ≤ 0) = b4) (h5 : decide (0 < a0) = b5) (h6 : decide (0 ≤ a0) = b6)
    (hc : (b1, b2, b3, b4, b5, b6) = (false, true, true, true, false, false) ∨ (b1, b2, b3, b4, b5, b6) = (true, false, false, true, false, true) ∨ (b1, b2, b3, b4, b5, b6) = (false, true, false, false, true, true)) :
    Calls Try.prog 7 #[.string s, .int .i64 a0] w fun e w' => e = .returned (.bool true) ∧ Grown w w' := by
  rcases hc with hc | hc | hc
  all_goals
    simp only [Prod.mk.injEq] at hc
    obtain ⟨rfl, rfl, rfl, rfl, rfl, rfl⟩ := hc
    rcases hs with rfl | rfl | rfl | rfl | rfl | rfl
    all_goals
      go_enter Try.func7, Try.ntmps7
      go_wp2
      go_ret
      exact ⟨rfl, by repeat (first | exact Grown.refl _ | apply Grown.drew | apply Grown.alloc)⟩

theorem list_other {a : ByteArray} {l : List UInt8} (h : a ≠ ⟨l.toArray⟩) : (a.toList == l) = false := by
  refine beq_eq_false_iff_ne.2 fun e => h ?_
  rw [ByteArray.toList_eq] at e
  exact Go.WideShapes.bytes_inj (by simpa using e)

theorem flip_walk (a0 : ByteArray) (a1 : Int) (w0 : a0.size ≤ maxLen) (w : World) :
    Calls Try.prog 7 #[.string a0, .int .i64 a1] w fun e w' => e = .returned (.bool true) ∧ Grown w w' := by
  by_cases hs : a0 = ⟨#[61, 61]⟩ ∨ a0 = ⟨#[33, 61]⟩ ∨ a0 = ⟨#[60]⟩ ∨ a0 = ⟨#[60, 61]⟩ ∨ a0 = ⟨#[62]⟩ ∨ a0 = ⟨#[62, 61]⟩
  · refine flip_op a0 hs a1 _ _ _ _ _ _ w rfl rfl rfl rfl rfl rfl ?_
    rcases (show a1 < 0 ∨ a1 = 0 ∨ 0 < a1 by omega) with h | h | h
    · exact .inl (by simp; omega)
    · exact .inr (.inl (by simp; omega))
    · exact .inr (.inr (by simp; omega))
  · simp only [not_or] at hs
    obtain ⟨h1, h2, h3, h4, h5, h6⟩ := hs
    exact flip_out a0 a1 w w0 (.inr ⟨list_other h1, list_other h2, list_other h3, list_other h4, list_other h5, list_other h6⟩)
end Go.Proofs.Qxb6600362a
