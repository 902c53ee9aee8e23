import Derived.Test.Qxb6601597aClone
namespace Go.Proofs.Qxb6601597a
open Go.ChangeShapes Go.WideShapes Go.ChangeAt Go.RowKit

/-! ### cloneInts: as cloneBytes -/
theorem clonei_nil (w : World) : Calls Try.prog 13 #[.slice none 0 0] w fun e w' => e = .returned (.slice none 0 0) ∧ w' = w := by
  have q22 := eqn22
  go_enter Try.func13, Try.ntmps13
  go_wp2
  go_ret
  exact ⟨rfl, rfl⟩

set_option maxHeartbeats 1000000 in
theorem clonei_some (x : Addr) (len cap : Nat) (l : List Int) (w : World) (hl : l.length = len) (hb : len ≤ 1048576) (hB : ∀ i, i < len → (x.add i).block < w.heap.size)
    (hx : ∀ i, i < len → w.cell? (x.add i) = some (.int .i64 (l.getD i 0))) :
    Calls Try.prog 13 #[.slice (some x) len cap] w fun e w' => e = .returned (.slice (some ⟨w.heap.size, 0, none⟩) len len) ∧
      w'.ownsRow w.heap.size 3 1 (.slice (some ⟨w.heap.size, 0, none⟩) len len) len (l.map (Value.int .i64)) ∧ Below w.heap.size w w' := by
  obtain ⟨i0, hi, hz0, hz1, hz2⟩ := info_parts info3
  have q22 := eqn22
  go_enter Try.func13, Try.ntmps13
  go_wp2_with (at_make; refine wpList_make_full _ rfl _ _ 22 rfl w.heap.size 3 i0 (.int .i64 0) 1 Try.underlying22 hi hz0 hz1 _ _ _ _ len rfl rfl rfl rfl ?b2 ?b3 (Nat.le_refl _) ?_)
  case b2 => rw [hz2]; omega
  case b3 => unfold maxLen; omega
  intro w0 hown0 hgrow0
  go_wp2
  go_loopw [4] (fun i wr => ∃ (k : Nat) (xs : List Value), k ≤ len ∧ i = .int .i64 k ∧ Begun .i64 xs l k ∧
      wr.ownsRow w.heap.size 3 1 (.slice (some ⟨w.heap.size, 0, none⟩) len len) len xs ∧ Below w.heap.size w wr)
    (fun i _ => len - (intOf i).toNat)
  case atStart => exact ⟨0, _, Nat.zero_le _, rfl, begun_zero _ _ _, hown0, (Below.refl _ _).grown hgrow0 (Nat.le_refl _) (fun k h => by cases h)⟩
  case round =>
    obtain ⟨k, xs, hk, rfl, hbeg, hown, hbel⟩ := hrel
    by_cases hlt : k < len
    · have hnext := fun (h : k < xs.length) => begun_set hbeg h
      have hxc : wr.cell? (x.add k) = some (.int .i64 (l.getD k 0)) := (hbel.cell (hB k hlt)).trans (hx k hlt)
      generalize l.getD k 0 = u at hnext hxc
      have hlen : xs.length = len := by simpa using hown.1
      obtain ⟨old, hold⟩ : ∃ old, wr.cell? ⟨w.heap.size, k, none⟩ = some old := ⟨_, (hown.cellAt k (by omega)).trans (List.getElem?_eq_getElem (by omega))⟩
      have hfr := hown.frozenAt k
      go_wp2
      go_roundw
      case rel => exact ⟨k + 1, _, by omega, by go_num, hnext (by omega), (hown.stored k _).1, hbel.setCell (Nat.le_refl _) _⟩
      case measure => simp [intOf]; omega
    · have hlen : xs.length = len := by simpa using hown.1
      have e := begun_all hbeg (by omega) (by omega)
      have HE : Hid (xs = l.map (Value.int .i64)) := e
      clear e
      go_wp2
      go_ret
      exact ⟨rfl, HE.out ▸ hown, hbel⟩

theorem cloneInts_any (a : Option Addr) (len cap : Nat) (zs : List Int) (w : World) (hc : Came .i64 w a len cap zs) (hb : len ≤ 1048576) :
    Calls Try.prog 13 #[.slice a len cap] w fun e w' => ∃ a' cap', e = .returned (.slice a' len cap') ∧ Held .i64 w' a' len cap' (zs.take len) ∧ Below w.heap.size w w' := by
  have hlen := hc.length
  rcases hc with ⟨rfl, rfl, rfl, rfl⟩ | ⟨x, rfl, hl, hm, hz, hx, _⟩
  · refine (clonei_nil w).mono ?_
    rintro e w' ⟨rfl, rfl⟩
    exact ⟨none, 0, rfl, ⟨rfl, .inl ⟨rfl, rfl, rfl⟩⟩, Below.refl _ _⟩
  · refine (clonei_some x len cap (zs.take len) w hlen hb (fun i hi => World.block_lt_of_cell? w _ (hx i (by omega))) (fun i hi => by rw [getD_take _ _ _ hi]; exact hx i (by omega))).mono ?_
    rintro e w' ⟨rfl, hown, hbel⟩
    exact ⟨_, _, rfl, held_of_owns hlen hown, hbel⟩

/-! ### indicesIn -/
def okIx (l : List Int) (n : Nat) : Bool := l.all fun x => decide (0 ≤ x) && decide (x < (n : Int))

theorem okIx_at {l : List Int} {n : Nat} (h : okIx l n = true) (i : Nat) (hi : i < l.length) : 0 ≤ l.getD i 0 ∧ l.getD i 0 < (n : Int) := by
  have := (List.all_eq_true.1 h) l[i] (List.getElem_mem hi)
  simp at this
  simp [List.getD, List.getElem?_eq_getElem hi]
  exact this

theorem okIx_of {l : List Int} {n : Nat} (h : ∀ i, i < l.length → 0 ≤ l.getD i 0 ∧ l.getD i 0 < (n : Int)) : okIx l n = true := by
  refine List.all_eq_true.2 fun x hx => ?_
  obtain ⟨i, hi, rfl⟩ := List.getElem_of_mem hx
  have := h i hi
  simp [List.getD, List.getElem?_eq_getElem hi] at this
  simp
  exact this

theorem okIx_bad {l : List Int} {n : Nat} (i : Nat) (hi : i < l.length) (h : l.getD i 0 < 0 ∨ (n : Int) ≤ l.getD i 0) : okIx l n = false := by
  cases e : okIx l n with
  | false => rfl
  | true => have := okIx_at e i hi; omega

theorem ret_bool {a b : Bool} (h : a = b) : Ending.returned (.bool a) = .returned (.bool b) := by rw [h]

set_option maxHeartbeats 1000000 in
theorem indices_any (a : Option Addr) (len cap n : Nat) (zs : List Int) (w : World) (hc : Came .i64 w a len cap zs) (hb : len ≤ 1048576) :
    Calls Try.prog 12 #[.slice a len cap, .int .i64 n] w fun e w' => e = .returned (.bool (okIx (zs.take len) n)) ∧ w' = w := by
  have hlen := hc.length
  have hx : ∀ i, i < len → ∃ x, a = some x ∧ w.cell? (x.add i) = some (.int .i64 ((zs.take len).getD i 0)) := by
    intro i hi
    rcases hc with ⟨_, rfl, _, _⟩ | ⟨x, rfl, hl, hm, hz, hx, _⟩
    · omega
    · exact ⟨x, rfl, by rw [getD_take _ _ _ hi]; exact hx i (by omega)⟩
  clear hc
  generalize zs.take len = l at hlen hx
  have HL : Hid (l.length = len) := hlen
  have hl1 : len ≤ l.length := by omega
  clear hlen
  have HX : Hid (∀ i, i < len → ∃ x, a = some x ∧ w.cell? (x.add i) = some (.int .i64 (l.getD i 0))) := hx
  clear hx
  go_enter Try.func12, Try.ntmps12
  go_wp2
  go_loop [5] (fun i => ∃ k : Nat, k ≤ len ∧ i = .int .i64 k ∧ Hid (∀ j, j < k → 0 ≤ l.getD j 0 ∧ l.getD j 0 < (n : Int)))
    (fun i => len - (intOf i).toNat)
  case atStart => exact ⟨0, Nat.zero_le _, rfl, fun j h => absurd h (Nat.not_lt_zero _)⟩
  case round =>
    obtain ⟨k, hk, rfl, hgood⟩ := hrel
    by_cases hlt : k < len
    · obtain ⟨x, rfl, hxc⟩ := HX.out k hlt
      have HN : Hid (0 ≤ l.getD k 0 ∧ l.getD k 0 < (n : Int) → ∀ j, j < k + 1 → 0 ≤ l.getD j 0 ∧ l.getD j 0 < (n : Int)) := by
        intro h j hj
        by_cases e : j = k
        · subst e; exact h
        · exact hgood.out j (by omega)
      have HB : Hid (l.getD k 0 < 0 ∨ (n : Int) ≤ l.getD k 0 → okIx l n = false) := fun h => okIx_bad k (by omega) h
      generalize l.getD k 0 = u at hxc HN HB
      by_cases c1 : u < 0
      · go_wp2
        go_ret
        exact ⟨ret_bool (HB.out (.inl c1)).symm, rfl⟩
      · by_cases c2 : u < n
        · go_wp2
          go_round
          case rel => exact ⟨k + 1, by omega, by go_num, HN.out ⟨by omega, c2⟩⟩
          case measure => simp [intOf]; omega
        · go_wp2
          go_ret
          exact ⟨ret_bool (HB.out (.inr (by omega))).symm, rfl⟩
    · have HE : Hid (okIx l n = true) := okIx_of fun i hi => hgood.out i (by have := HL.out; omega)
      go_wp2
      go_ret
      exact ⟨ret_bool HE.out.symm, rfl⟩
end Go.Proofs.Qxb6601597a
