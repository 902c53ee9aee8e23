import Derived.Test.Qxb6601597aClone
namespace Go.Proofs.Qxb6601597a
open Go.ChangeShapes Go.WideShapes Go.ChangeAt Go.RowKit

/-! ### THE PLAIN FUNCTION -/
/-- n numbers of l, repeated. -/
def cyc (l : List Int) (n : Nat) : List Int := (List.range n).map fun i => l.getD (i % l.length) 0

theorem cyc_length (l : List Int) (n : Nat) : (cyc l n).length = n := by simp [cyc]
theorem cyc_zero (l : List Int) : cyc l 0 = [] := rfl
theorem cyc_getD (l : List Int) (n i : Nat) (h : i < n) : (cyc l n).getD i 0 = l.getD (i % l.length) 0 := by
  simp [cyc, List.getD, h]
theorem cyc_append (l : List Int) (m d : Nat) (hm : m % l.length = 0) (hd : d ≤ l.length) : cyc l m ++ l.take d = cyc l (m + d) := by
  apply List.ext_getElem?
  intro j
  by_cases h1 : j < m
  · rw [List.getElem?_append_left (by rw [cyc_length]; exact h1)]
    simp [cyc, h1, show j < m + d by omega]
  · rw [List.getElem?_append_right (by rw [cyc_length]; omega), cyc_length]
    by_cases h2 : j < m + d
    · have e : j % l.length = j - m := by
        have hj : j = (j - m) + m := by omega
        rw [hj, Nat.add_mod, hm, Nat.add_zero, Nat.mod_mod, Nat.mod_eq_of_lt (by omega)]
        omega
      have hlt : j - m < l.length := by omega
      simp [cyc, h2, e, show j - m < d by omega, List.getElem?_eq_getElem hlt]
    · rw [List.getElem?_eq_none (by simp; omega), List.getElem?_eq_none (by rw [cyc_length]; omega)]

theorem ints_row {k : IntKind} {w : World} {g : Nat} {l : List Int} {d : Nat} (hd : d ≤ l.length) (hc : ∀ i, i < l.length → w.cell? ⟨g, i, none⟩ = some (.int k (l.getD i 0))) :
    ∀ j u, ((l.take d).map (Value.int k))[j]? = some u → w.cell? ((⟨g, 0, none⟩ : Addr).add j) = some u := by
  intro j u hu
  have hj : j < d := by
    have := (List.getElem?_eq_some_iff.1 hu).1
    simp at this
    omega
  rw [Addr.add_lit, Nat.zero_add, hc j (by omega)]
  have e : ((l.take d).map (Value.int k))[j]? = some (.int k (l.getD j 0)) := by
    simp [List.getD, hj, show j < l.length by omega]
  rw [e] at hu
  exact hu

set_option maxHeartbeats 1000000 in
theorem stretch_core (a : Option Addr) (len cap : Nat) (l : List Int) (n : Nat) (w : World) (hh : Held .u8 w a len cap l) (hb : len ≤ 1048576) (hn : n ≤ 65536) (h0 : len = 0 → n = 0) :
    Calls Try.prog 32 #[.slice a len cap, .int .i64 n] w fun e w' => e = .returned (.slice (some ⟨w.heap.size, 0, none⟩) n n) ∧
      w'.ownsRow w.heap.size 5 1 (.slice (some ⟨w.heap.size, 0, none⟩) n n) n ((cyc l n).map (Value.int .u8)) ∧ Below w.heap.size w w' := by
  obtain ⟨i0, hi, hz0, hz1, hz2⟩ := info_parts info5
  obtain ⟨hl, hh⟩ := hh
  go_enter Try.func32, Try.ntmps32
  go_wp2_with (at_make; refine wpList_make_own _ rfl _ _ 23 rfl w.heap.size 5 i0 (.int .u8 0) 1 Try.underlying23 hi hz0 hz1 _ _ _ n rfl rfl rfl ?b2 ?b3 (Nat.le_refl _) ?_)
  case b2 => rw [hz2]; omega
  case b3 => unfold maxLen; omega
  intro w0 hown0 hgrow0
  go_wp2
  go_loopw [5] (fun out wr => ∃ (m : Nat), m ≤ n ∧ out = .slice (some ⟨w.heap.size, 0, none⟩) m n ∧ (m < n → m % l.length = 0) ∧
      wr.ownsRow w.heap.size 5 1 (.slice (some ⟨w.heap.size, 0, none⟩) m n) m ((cyc l m).map (Value.int .u8)) ∧ Below w.heap.size w wr)
    (fun out _ => match out with | .slice _ m _ => n - m | _ => 0)
  case atStart => exact ⟨0, Nat.zero_le _, rfl, fun _ => Nat.zero_mod _, hown0, (Below.refl _ _).grown hgrow0 (Nat.le_refl _) (fun k h => by cases h)⟩
  case round =>
    obtain ⟨m, hm, rfl, hmod, hown, hbel⟩ := hrel
    by_cases hlt : m < n
    · obtain ⟨rfl, hl0, _⟩ | ⟨g, rfl, hg, hlc, hcm, hc⟩ := hh
      · omega
      have hc' : ∀ i, i < l.length → wr.cell? ⟨g, i, none⟩ = some (.int .u8 (l.getD i 0)) := fun i hi => (hbel.cell (p := ⟨g, i, none⟩) hg).trans (hc i (by omega))
      have HM : Hid (m % l.length = 0) := hmod hlt
      have HN : Hid ((m + len) % l.length = 0) := by show (m + len) % l.length = 0; rw [hl, Nat.add_mod_right, ← hl]; exact HM.out
      clear hmod hc
      by_cases hd : len ≤ n - m
      · go_wp2_with (at_builtin; refine wpList_append_fits _ rfl (.tmp 12) (.tmp 21) 23 rfl w.heap.size 5 i0 1 Try.underlying23 hi hz1 w.heap.size m n _ rfl hown ⟨g, 0, none⟩ len cap ((l.take len).map (Value.int .u8)) rfl (by simp [hl]) (ints_row (by omega) hc') (ints_oneCell _ _) (by omega) ?_; intro w1 hown1 hgrow1)
        go_roundw
        case rel =>
          refine ⟨m + len, by omega, rfl, fun _ => HN.out, ?_, hbel.grown hgrow1 hbel.size (fun k h => by cases h; exact Nat.le_refl _)⟩
          rw [← cyc_append l m len HM.out (by omega), List.map_append]
          exact hown1
        case measure => simp; omega
      · have hd' : (n : Int) - (m : Int) < (len : Int) := by omega
        go_wp2_with (at_builtin; refine wpList_append_fits _ rfl (.tmp 12) (.tmp 21) 23 rfl w.heap.size 5 i0 1 Try.underlying23 hi hz1 w.heap.size m n _ rfl hown ⟨g, 0, none⟩ (n - m) cap ((l.take (n - m)).map (Value.int .u8)) rfl (by simp; omega) (ints_row (by omega) hc') (ints_oneCell _ _) (by omega) ?_; intro w1 hown1 hgrow1)
        go_roundw
        case rel =>
          have e : m + (n - m) = n := by omega
          have ec := cyc_append l m (n - m) HM.out (by omega)
          rw [← List.map_append, ec, e] at hown1
          exact ⟨n, Nat.le_refl _, rfl, fun h => absurd h (Nat.lt_irrefl _), hown1, hbel.grown hgrow1 hbel.size (fun k h => by cases h; exact Nat.le_refl _)⟩
        case measure => simp; omega
    · obtain rfl : m = n := by omega
      go_wp2
      go_ret
      exact ⟨rfl, hown, hbel⟩

theorem stretch_any (a : Option Addr) (len cap : Nat) (l : List Int) (n : Nat) (w : World) (hh : Held .u8 w a len cap l) (hb : len ≤ 1048576) (hn : n ≤ 65536) (h0 : len = 0 → n = 0) :
    Calls Try.prog 25 #[.slice a len cap, .int .i64 n] w fun e w' => e = .returned (.slice (some ⟨w.heap.size, 0, none⟩) n n) ∧
      Held .u8 w' (some ⟨w.heap.size, 0, none⟩) n n (cyc l n) ∧ Below w.heap.size w w' := by
  go_enter Try.func25, Try.ntmps25
  go_wp2_with fail
  refine (stretch_core a len cap l n w hh hb hn h0).mono ?_
  rintro e w' ⟨rfl, hown, hbel⟩
  have hheld := held_of_owns (cyc_length l n) hown
  clear hown
  go_wp2
  go_ret
  exact ⟨rfl, hheld, hbel⟩
end Go.Proofs.Qxb6601597a
