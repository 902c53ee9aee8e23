import Derived.Test.Qxb6601597aEncWalk
import Derived.Deep.QuietTactic
import Derived.BigQuiet
namespace Go.Proofs.Qxb6601597a
open Go.ChangeShapes Go.WideShapes Go.ChangeAt Go.RowKit

/-! ### From what came in to what encode is told -/
def dn (l : List Int) : List Nat := l.map Int.toNat
theorem up_dn (l : List Int) (h : ∀ x ∈ l, 0 ≤ x) : up (dn l) = l := by
  simp only [up, dn, List.map_map]
  refine (List.map_congr_left fun x hx => ?_).trans (List.map_id l)
  have := h x hx
  simp only [Function.comp_apply, id_eq]
  omega
theorem dn_length (l : List Int) : (dn l).length = l.length := by simp [dn]
theorem dn_getD (l : List Int) (i : Nat) : (dn l).getD i 0 = (l.getD i 0).toNat := by
  by_cases h : i < l.length
  · simp [dn, List.getD, List.getElem?_eq_getElem h]
  · simp [dn, List.getD, List.getElem?_eq_none (Nat.le_of_not_lt h)]

theorem okIx_nonneg {l : List Int} {n : Nat} (h : okIx l n = true) : ∀ x ∈ l, 0 ≤ x := by
  intro x hx
  have := (List.all_eq_true.1 h) x hx
  simp at this
  exact this.1

theorem Came.bytes {w : World} {a : Option Addr} {len cap : Nat} {zs : List Int} (h : Came .u8 w a len cap zs) : ∀ x ∈ zs.take len, 0 ≤ x ∧ x ≤ 255 := by
  intro x hx
  have hx' := List.mem_of_mem_take hx
  rcases h with ⟨_, _, _, rfl⟩ | ⟨_, _, _, _, _, _, hw⟩
  · cases hx'
  · exact bounds_u8 (hw x hx')

theorem getD_byte {l : List Int} (h : ∀ x ∈ l, 0 ≤ x ∧ x ≤ 255) (i : Nat) : (dn l).getD i 0 < 256 := by
  rw [dn_getD]
  by_cases hi : i < l.length
  · have := h l[i] (List.getElem_mem hi)
    simp [List.getD, List.getElem?_eq_getElem hi]
    omega
  · simp [List.getD, List.getElem?_eq_none (Nat.le_of_not_lt hi)]

theorem Came.below {k : IntKind} {w w' : World} {a : Option Addr} {len cap : Nat} {zs : List Int} (h : Came k w a len cap zs) (hb : Below w.heap.size w w') : Came k w' a len cap zs := by
  rcases h with h | ⟨x, ha, hl, hm, hz, hc, hw⟩
  · exact .inl h
  · exact .inr ⟨x, ha, hl, hm, hz, fun i hi => (hb.cell (World.block_lt_of_cell? w _ (hc i hi))).trans (hc i hi), hw⟩

/-! ### The plain law, as the walk asks it -/
theorem str_same {x y : List Nat} (h : x = y) : ((strOfNums (up (enc x))).toList == (strOfNums (up (enc y))).toList) = true := by
  subst h; simp
theorem strData (l : List Nat) : (strOfNums (up l)).data.toList = l.map UInt8.ofNat := by
  rw [strOfNums_data]
  simp [up, Function.comp_def]
theorem ofNat_inj_list : ∀ {a b : List Nat}, (∀ x ∈ a, x < 256) → (∀ x ∈ b, x < 256) → a.map UInt8.ofNat = b.map UInt8.ofNat → a = b := by
  intro a
  induction a with
  | nil => intro b _ _ h; cases b with
    | nil => rfl
    | cons y r => simp at h
  | cons x r ih =>
    intro b ha hb h
    cases b with
    | nil => simp at h
    | cons y s =>
      simp only [List.map_cons, List.cons.injEq] at h
      have hx := ha x (by simp)
      have hy := hb y (by simp)
      have e : x = y := by
        have := congrArg UInt8.toNat h.1
        simp only [UInt8.toNat_ofNat', Nat.reducePow] at this
        omega
      rw [e, ih (fun z hz => ha z (by simp [hz])) (fun z hz => hb z (by simp [hz])) h.2]
theorem str_other {x y : List Nat} (hl : x.length = y.length) (hx : ∀ b ∈ x, b < 256) (hy : ∀ b ∈ y, b < 256) (h : x ≠ y) :
    ((strOfNums (up (enc x))).toList == (strOfNums (up (enc y))).toList) = false := by
  rw [ByteArray.toList_eq, ByteArray.toList_eq, strData, strData]
  refine beq_eq_false_iff_ne.2 fun e => h ?_
  exact enc_inj x y hl hx hy (ofNat_inj_list (enc_lt x) (enc_lt y) e)
theorem listed_same {ix A B : List Nat} (h : ∀ j, j < ix.length → A.getD (ix.getD j 0) 0 = B.getD (ix.getD j 0) 0) : listed ix A = listed ix B := by
  refine List.map_congr_left fun x hx => ?_
  obtain ⟨i, hi, rfl⟩ := List.getElem_of_mem hx
  have := h i hi
  simpa [List.getD, List.getElem?_eq_getElem hi] using this
theorem listed_other {ix A B : List Nat} {j : Nat} (hj : j < ix.length) (h : A.getD (ix.getD j 0) 0 ≠ B.getD (ix.getD j 0) 0) : listed ix A ≠ listed ix B := by
  intro e
  have : (listed ix A).getD j 0 = (listed ix B).getD j 0 := by rw [e]
  rw [listed_getD _ _ _ hj, listed_getD _ _ _ hj] at this
  exact h this

set_option maxHeartbeats 4000000 in
theorem sep_out (a0 : Option Addr) (len0 cap0 : Nat) (a1 : Option Addr) (len1 cap1 : Nat) (a2 : Option Addr) (len2 cap2 : Nat) (w : World)
    (h0 : len0 ≤ maxLen) (h1 : len1 ≤ maxLen) (h2 : len2 ≤ maxLen) (hout : 1048576 < 8 * len0 + len1 + len2) :
    Calls Try.prog 5 #[.slice a0 len0 cap0, .slice a1 len1 cap1, .slice a2 len2 cap2] w fun e w' => e = .returned (.bool true) ∧ Below w.heap.size w w' := by
  unfold maxLen at h0 h1 h2
  by_cases c1 : 1048576 < len0
  · go_enter Try.func5, Try.ntmps5
    go_wp2
    go_ret
    exact ⟨rfl, Below.refl _ _⟩
  by_cases c2 : 1048576 < len1
  · go_enter Try.func5, Try.ntmps5
    go_wp2
    go_ret
    exact ⟨rfl, Below.refl _ _⟩
  by_cases c3 : 1048576 < len0 + len1
  · go_enter Try.func5, Try.ntmps5
    go_wp2
    go_ret
    exact ⟨rfl, Below.refl _ _⟩
  by_cases c4 : 1048576 < len2
  · go_enter Try.func5, Try.ntmps5
    go_wp2
    go_ret
    exact ⟨rfl, Below.refl _ _⟩
  by_cases c5 : 1048576 < len0 + len1 + len2
  · go_enter Try.func5, Try.ntmps5
    go_wp2
    go_ret
    exact ⟨rfl, Below.refl _ _⟩
  by_cases c6 : 131072 < len0
  · go_enter Try.func5, Try.ntmps5
    go_wp2
    go_ret
    exact ⟨rfl, Below.refl _ _⟩
  go_enter Try.func5, Try.ntmps5
  go_wp2
  go_ret
  exact ⟨rfl, Below.refl _ _⟩

set_option maxHeartbeats 2000000 in
theorem sep_bad (a0 : Option Addr) (len0 cap0 : Nat) (z0 : List Int) (a1 : Option Addr) (len1 cap1 : Nat) (a2 : Option Addr) (len2 cap2 : Nat) (w : World)
    (w0 : Came .i64 w a0 len0 cap0 z0) (hin : 8 * len0 + len1 + len2 ≤ 1048576) (hbad : okIx (z0.take len0) len1 = false ∨ okIx (z0.take len0) len2 = false) :
    Calls Try.prog 5 #[.slice a0 len0 cap0, .slice a1 len1 cap1, .slice a2 len2 cap2] w fun e w' => e = .returned (.bool true) ∧ Below w.heap.size w w' := by
  by_cases c1 : okIx (z0.take len0) len1 = true
  · have c2 : okIx (z0.take len0) len2 = false := by rcases hbad with h | h; (rw [c1] at h; cases h); exact h
    clear hbad
    go_enter Try.func5, Try.ntmps5
    go_wp2_with (first | (go_at_call 20; go_in) | fail)
    refine (indices_any a0 len0 cap0 len1 z0 w w0 (by omega)).mono ?_
    rintro e w' ⟨rfl, rfl⟩
    rw [c1]
    go_wp2_with fail
    refine (indices_any a0 len0 cap0 len2 z0 _ w0 (by omega)).mono ?_
    rintro e w' ⟨rfl, rfl⟩
    rw [c2]
    go_wp2
    go_ret
    exact ⟨rfl, Below.refl _ _⟩
  · have c1' : okIx (z0.take len0) len1 = false := by simpa using c1
    clear hbad c1
    go_enter Try.func5, Try.ntmps5
    go_wp2_with (first | (go_at_call 20; go_in) | fail)
    refine (indices_any a0 len0 cap0 len1 z0 w w0 (by omega)).mono ?_
    rintro e w' ⟨rfl, rfl⟩
    rw [c1']
    go_wp2
    go_ret
    exact ⟨rfl, Below.refl _ _⟩

end Go.Proofs.Qxb6601597a
