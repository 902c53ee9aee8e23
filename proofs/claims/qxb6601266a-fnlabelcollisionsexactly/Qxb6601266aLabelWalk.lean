import Derived.Test.Qxb6601266aRows
import Derived.WalkKit
import Derived.ProofKit
import Derived.OpenShut
import Derived.WalkLawsBesides
namespace Go.Proofs.Qxb6601266a
open Go.ChangeShapes Go.WideShapes Go.ChangeAt Go.RowKit

/-! ### THE PLAIN FUNCTIONS. A string as the list of its bytes: 'package', 'Package', 'addon', 'Add-on'. -/
def pk : List UInt8 := [112, 97, 99, 107, 97, 103, 101]
def pkU : List UInt8 := [80, 97, 99, 107, 97, 103, 101]
def ad : List UInt8 := [97, 100, 100, 111, 110]
def adU : List UInt8 := [65, 100, 100, 45, 111, 110]
def label (a : List UInt8) : List UInt8 := if a = pk then pkU else if a = ad then adU else a
def pair (a b x y : List UInt8) : Bool := (a == x && b == y) || (a == y && b == x)

theorem label_iff (a b : List UInt8) : label a = label b ↔ a = b ∨ pair a b pk pkU = true ∨ pair a b ad adU = true := by
  have e1 : pk ≠ ad := by decide
  have e2 : pkU ≠ adU := by decide
  have e3 : pk ≠ pkU := by decide
  have e4 : ad ≠ adU := by decide
  have e5 : pk ≠ adU := by decide
  have e6 : ad ≠ pkU := by decide
  unfold label pair
  simp only [Bool.or_eq_true, Bool.and_eq_true, beq_iff_eq]
  generalize pk = p at *
  generalize pkU = P at *
  generalize ad = d at *
  generalize adU = D at *
  by_cases a1 : a = p
  · subst a1
    rw [if_pos rfl]
    by_cases b1 : b = a
    · subst b1; simp
    rw [if_neg b1]
    by_cases b2 : b = d
    · subst b2
      rw [if_pos rfl]
      exact ⟨fun h => absurd h e2, fun h => by rcases h with h | (⟨_, h⟩ | ⟨h, _⟩) | (⟨h, _⟩ | ⟨h, _⟩) <;> first | exact absurd h e1 | exact absurd h e6 | exact absurd h e3 | exact absurd h e5⟩
    · rw [if_neg b2]
      exact ⟨fun h => .inr (.inl (.inl ⟨rfl, h.symm⟩)), fun h => by rcases h with h | (⟨_, h⟩ | ⟨h, _⟩) | (⟨h, _⟩ | ⟨h, _⟩) <;> first | exact absurd h.symm b1 | exact h.symm | exact absurd h e3 | exact absurd h e1 | exact absurd h e5⟩
  rw [if_neg a1]
  by_cases a2 : a = d
  · subst a2
    rw [if_pos rfl]
    by_cases b1 : b = p
    · subst b1
      rw [if_pos rfl]
      exact ⟨fun h => absurd h.symm e2, fun h => by rcases h with h | (⟨h, _⟩ | ⟨h, _⟩) | (⟨_, h⟩ | ⟨_, h⟩) <;> first | exact absurd h a1 | exact absurd h e6 | exact absurd h e5 | exact absurd h.symm a1⟩
    rw [if_neg b1]
    by_cases b2 : b = a
    · subst b2; simp
    · rw [if_neg b2]
      exact ⟨fun h => .inr (.inr (.inl ⟨rfl, h.symm⟩)), fun h => by rcases h with h | (⟨h, _⟩ | ⟨h, _⟩) | (⟨_, h⟩ | ⟨_, h⟩) <;> first | exact absurd h.symm b2 | exact absurd h a1 | exact absurd h e6 | exact h.symm | exact absurd h b2⟩
  rw [if_neg a2]
  by_cases b1 : b = p
  · subst b1
    rw [if_pos rfl]
    exact ⟨fun h => .inr (.inl (.inr ⟨h, rfl⟩)), fun h => by rcases h with h | (⟨h, _⟩ | ⟨h, _⟩) | (⟨h, _⟩ | ⟨_, h⟩) <;> first | exact absurd h a1 | exact h | exact absurd h a2 | exact absurd h e1⟩
  rw [if_neg b1]
  by_cases b2 : b = d
  · subst b2
    rw [if_pos rfl]
    exact ⟨fun h => .inr (.inr (.inr ⟨h, rfl⟩)), fun h => by rcases h with h | (⟨h, _⟩ | ⟨_, h⟩) | (⟨h, _⟩ | ⟨h, _⟩) <;> first | exact absurd h a2 | exact absurd h a1 | exact absurd h b1 | exact h⟩
  · rw [if_neg b2]
    exact ⟨fun h => .inl h, fun h => by rcases h with h | (⟨h, _⟩ | ⟨_, h⟩) | (⟨h, _⟩ | ⟨_, h⟩) <;> first | exact absurd h a1 | exact absurd h b1 | exact absurd h a2 | exact absurd h b2 | exact h⟩

/-! ### THE WALKS -/
theorem label_any (a : ByteArray) (w : World) : Calls Try.prog 10 #[.string a] w fun e w' => e = .returned (.string ⟨(label a.data.toList).toArray⟩) ∧ w' = w := by
  by_cases c1 : a.data.toList = pk
  · have HE : Hid (label a.data.toList = pkU) := by show _ = _; unfold label; rw [if_pos c1]
    have h1 : (a.toList == [112, 97, 99, 107, 97, 103, 101]) = true := by rw [ByteArray.toList_eq, c1]; rfl
    clear c1
    go_enter Try.func10, Try.ntmps10
    go_wp2
    go_ret
    exact ⟨by rw [HE.out]; rfl, rfl⟩
  have h1 : (a.toList == [112, 97, 99, 107, 97, 103, 101]) = false := by rw [ByteArray.toList_eq]; exact beq_eq_false_iff_ne.2 c1
  by_cases c2 : a.data.toList = ad
  · have HE : Hid (label a.data.toList = adU) := by show _ = _; unfold label; rw [if_neg c1, if_pos c2]
    have h2 : (a.toList == [97, 100, 100, 111, 110]) = true := by rw [ByteArray.toList_eq, c2]; rfl
    clear c1 c2
    go_enter Try.func10, Try.ntmps10
    go_wp2
    go_ret
    exact ⟨by rw [HE.out]; rfl, rfl⟩
  have h2 : (a.toList == [97, 100, 100, 111, 110]) = false := by rw [ByteArray.toList_eq]; exact beq_eq_false_iff_ne.2 c2
  have HE : Hid (label a.data.toList = a.data.toList) := by show _ = _; unfold label; rw [if_neg c1, if_neg c2]
  clear c1 c2
  go_enter Try.func10, Try.ntmps10
  go_wp2
  go_ret
  exact ⟨by rw [HE.out]; rfl, rfl⟩

theorem pair_any (a b x y : ByteArray) (w : World) : Calls Try.prog 12 #[.string a, .string b, .string x, .string y] w fun e w' => e = .returned (.bool (pair a.data.toList b.data.toList x.data.toList y.data.toList)) ∧ w' = w := by
  unfold pair
  rw [← ByteArray.toList_eq, ← ByteArray.toList_eq, ← ByteArray.toList_eq, ← ByteArray.toList_eq]
  cases h1 : (a.toList == x.toList) <;> cases h2 : (b.toList == y.toList) <;> cases h3 : (a.toList == y.toList) <;> cases h4 : (b.toList == x.toList)
  all_goals
    go_enter Try.func12, Try.ntmps12
    go_wp2
    go_ret
    exact ⟨rfl, rfl⟩

theorem pair_pk (a b : ByteArray) (v : Bool) (h : pair a.data.toList b.data.toList pk pkU = v) (w : World) :
    Calls Try.prog 12 #[.string a, .string b, .string ⟨#[112, 97, 99, 107, 97, 103, 101]⟩, .string ⟨#[80, 97, 99, 107, 97, 103, 101]⟩] w fun e w' => e = .returned (.bool v) ∧ w' = w := by
  refine (pair_any a b _ _ w).mono ?_
  rintro e w' ⟨rfl, rfl⟩
  exact ⟨by rw [← h]; rfl, rfl⟩
theorem pair_ad (a b : ByteArray) (v : Bool) (h : pair a.data.toList b.data.toList ad adU = v) (w : World) :
    Calls Try.prog 12 #[.string a, .string b, .string ⟨#[97, 100, 100, 111, 110]⟩, .string ⟨#[65, 100, 100, 45, 111, 110]⟩] w fun e w' => e = .returned (.bool v) ∧ w' = w := by
  refine (pair_any a b _ _ w).mono ?_
  rintro e w' ⟨rfl, rfl⟩
  exact ⟨by rw [← h]; rfl, rfl⟩

set_option maxHeartbeats 1000000 in
theorem label_out (a0 a1 : ByteArray) (w : World) (h0 : a0.size ≤ maxLen) (h1 : a1.size ≤ maxLen) (hout : 524288 < a0.size ∨ 524288 < a1.size) :
    Calls Try.prog 5 #[.string a0, .string a1] w fun e w' => e = .returned (.bool true) ∧ Grown w w' := by
  unfold maxLen at h0 h1
  by_cases c1 : 1048576 < a0.size
  · go_enter Try.func5, Try.ntmps5
    go_wp2
    go_ret
    exact ⟨rfl, Grown.refl _⟩
  by_cases c2 : 1048576 < a1.size
  · go_enter Try.func5, Try.ntmps5
    go_wp2
    go_ret
    exact ⟨rfl, Grown.refl _⟩
  by_cases c3 : 1048576 < a0.size + a1.size
  · go_enter Try.func5, Try.ntmps5
    go_wp2
    go_ret
    exact ⟨rfl, Grown.refl _⟩
  by_cases c4 : 524288 < a0.size
  · go_enter Try.func5, Try.ntmps5
    go_wp2
    go_ret
    exact ⟨rfl, Grown.refl _⟩
  have c5 : 524288 < a1.size := by omega
  go_enter Try.func5, Try.ntmps5
  go_wp2
  go_ret
  exact ⟨rfl, Grown.refl _⟩

set_option maxHeartbeats 1000000 in
theorem label_in (a0 a1 : ByteArray) (w : World) (c0 : a0.size ≤ 524288) (c1 : a1.size ≤ 524288) :
    Calls Try.prog 5 #[.string a0, .string a1] w fun e w' => e = .returned (.bool true) ∧ Grown w w' := by
  have hl := label_iff a0.data.toList a1.data.toList
  have HL : Hid (label a0.data.toList = label a1.data.toList ↔ a0.data.toList = a1.data.toList ∨ pair a0.data.toList a1.data.toList pk pkU = true ∨ pair a0.data.toList a1.data.toList ad adU = true) := hl
  have HT : Hid (((⟨(label a0.data.toList).toArray⟩ : ByteArray).toList == (⟨(label a1.data.toList).toArray⟩ : ByteArray).toList) = (label a0.data.toList == label a1.data.toList)) := by
    show _ = _
    rw [ByteArray.toList_eq, ByteArray.toList_eq]
  clear hl
  by_cases e0 : a0.data.toList = a1.data.toList
  · have hs : ((⟨(label a0.data.toList).toArray⟩ : ByteArray).toList == (⟨(label a1.data.toList).toArray⟩ : ByteArray).toList) = true := by
      rw [HT.out]; exact beq_iff_eq.2 (HL.out.2 (.inl e0))
    have hq : (a0.toList == a1.toList) = true := by rw [ByteArray.toList_eq, ByteArray.toList_eq]; exact beq_iff_eq.2 e0
    clear HL HT e0
    go_enter Try.func5, Try.ntmps5
    go_wp2_with (first | (go_at_call 11; go_in) | fail)
    refine (label_any a0 w).mono ?_
    rintro e w' ⟨rfl, rfl⟩
    go_wp2_with fail
    refine (label_any a1 _).mono ?_
    rintro e w' ⟨rfl, rfl⟩
    generalize (⟨(label a0.data.toList).toArray⟩ : ByteArray) = s0 at hs ⊢
    generalize (⟨(label a1.data.toList).toArray⟩ : ByteArray) = s1 at hs ⊢
    go_wp2
    go_ret
    exact ⟨rfl, Grown.refl _⟩
  have hq : (a0.toList == a1.toList) = false := by rw [ByteArray.toList_eq, ByteArray.toList_eq]; exact beq_eq_false_iff_ne.2 e0
  by_cases e1 : pair a0.data.toList a1.data.toList pk pkU = true
  · have hs : ((⟨(label a0.data.toList).toArray⟩ : ByteArray).toList == (⟨(label a1.data.toList).toArray⟩ : ByteArray).toList) = true := by
      rw [HT.out]; exact beq_iff_eq.2 (HL.out.2 (.inr (.inl e1)))
    have E1 : Hid (pair a0.data.toList a1.data.toList pk pkU = true) := e1
    clear HL HT e0 e1
    go_enter Try.func5, Try.ntmps5
    go_wp2_with (first | (go_at_call 11; go_in) | fail)
    refine (label_any a0 w).mono ?_
    rintro e w' ⟨rfl, rfl⟩
    go_wp2_with fail
    refine (label_any a1 _).mono ?_
    rintro e w' ⟨rfl, rfl⟩
    generalize (⟨(label a0.data.toList).toArray⟩ : ByteArray) = s0 at hs ⊢
    generalize (⟨(label a1.data.toList).toArray⟩ : ByteArray) = s1 at hs ⊢
    go_wp2_with fail
    refine (pair_pk a0 a1 _ E1.out _).mono ?_
    rintro e w' ⟨rfl, rfl⟩
    go_wp2
    go_ret
    exact ⟨rfl, Grown.refl _⟩
  have e1' : pair a0.data.toList a1.data.toList pk pkU = false := by simpa using e1
  have E1 : Hid (pair a0.data.toList a1.data.toList pk pkU = false) := e1'
  clear e1'
  by_cases e2 : pair a0.data.toList a1.data.toList ad adU = true
  · have hs : ((⟨(label a0.data.toList).toArray⟩ : ByteArray).toList == (⟨(label a1.data.toList).toArray⟩ : ByteArray).toList) = true := by
      rw [HT.out]; exact beq_iff_eq.2 (HL.out.2 (.inr (.inr e2)))
    have E2 : Hid (pair a0.data.toList a1.data.toList ad adU = true) := e2
    clear HL HT e0 e1 e2
    go_enter Try.func5, Try.ntmps5
    go_wp2_with (first | (go_at_call 11; go_in) | fail)
    refine (label_any a0 w).mono ?_
    rintro e w' ⟨rfl, rfl⟩
    go_wp2_with fail
    refine (label_any a1 _).mono ?_
    rintro e w' ⟨rfl, rfl⟩
    generalize (⟨(label a0.data.toList).toArray⟩ : ByteArray) = s0 at hs ⊢
    generalize (⟨(label a1.data.toList).toArray⟩ : ByteArray) = s1 at hs ⊢
    go_wp2_with fail
    refine (pair_pk a0 a1 _ E1.out _).mono ?_
    rintro e w' ⟨rfl, rfl⟩
    go_wp2_with fail
    refine (pair_ad a0 a1 _ E2.out _).mono ?_
    rintro e w' ⟨rfl, rfl⟩
    go_wp2
    go_ret
    exact ⟨rfl, Grown.refl _⟩
  · have hs : ((⟨(label a0.data.toList).toArray⟩ : ByteArray).toList == (⟨(label a1.data.toList).toArray⟩ : ByteArray).toList) = false := by
      rw [HT.out]
      refine beq_eq_false_iff_ne.2 fun h => ?_
      rcases HL.out.1 h with h | h | h
      · exact e0 h
      · exact e1 h
      · exact e2 h
    have E2 : Hid (pair a0.data.toList a1.data.toList ad adU = false) := by show _ = _; simpa using e2
    clear HL HT e0 e1 e2
    go_enter Try.func5, Try.ntmps5
    go_wp2_with (first | (go_at_call 11; go_in) | fail)
    refine (label_any a0 w).mono ?_
    rintro e w' ⟨rfl, rfl⟩
    go_wp2_with fail
    refine (label_any a1 _).mono ?_
    rintro e w' ⟨rfl, rfl⟩
    generalize (⟨(label a0.data.toList).toArray⟩ : ByteArray) = s0 at hs ⊢
    generalize (⟨(label a1.data.toList).toArray⟩ : ByteArray) = s1 at hs ⊢
    go_wp2_with fail
    refine (pair_pk a0 a1 _ E1.out _).mono ?_
    rintro e w' ⟨rfl, rfl⟩
    go_wp2_with fail
    refine (pair_ad a0 a1 _ E2.out _).mono ?_
    rintro e w' ⟨rfl, rfl⟩
    go_wp2
    go_ret
    exact ⟨rfl, Grown.refl _⟩

theorem label_walk (a0 a1 : ByteArray) (w0 : a0.size ≤ maxLen) (w1 : a1.size ≤ maxLen) (w : World) :
    Calls Try.prog 5 #[.string a0, .string a1] w fun e w' => e = .returned (.bool true) ∧ Grown w w' := by
  by_cases hout : 524288 < a0.size ∨ 524288 < a1.size
  · exact label_out a0 a1 w w0 w1 hout
  · exact label_in a0 a1 w (by omega) (by omega)
end Go.Proofs.Qxb6601266a
