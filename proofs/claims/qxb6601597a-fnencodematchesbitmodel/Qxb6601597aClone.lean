import Derived.Test.Qxb6601597aRows
import Derived.WalkKit
import Derived.ProofKit
import Derived.OpenShut
import Derived.Below
import Derived.WalkSpells
import Derived.WalkLawsBesides
namespace Go.Proofs.Qxb6601597a
open Go.ChangeShapes Go.WideShapes Go.ChangeAt Go.RowKit

theorem info5 : (Try.prog.info? 5).map (fun i => (i.zero, i.size, i.bytes)) = some (some (.int .u8 0), 1, 1) := by kernel_rfl
theorem info3 : (Try.prog.info? 3).map (fun i => (i.zero, i.size, i.bytes)) = some (some (.int .i64 0), 1, 8) := by kernel_rfl

/-- The first k cells of xs are the numbers of l. -/
def Begun (k : IntKind) (xs : List Value) (l : List Int) (n : Nat) : Prop := ∀ j, j < n → xs[j]? = some (.int k (l.getD j 0))

theorem begun_zero (k : IntKind) (xs : List Value) (l : List Int) : Begun k xs l 0 := fun _ h => absurd h (Nat.not_lt_zero _)

theorem begun_set {k : IntKind} {xs : List Value} {l : List Int} {n : Nat} (h : Begun k xs l n) (hn : n < xs.length) :
    Begun k (xs.set n (.int k (l.getD n 0))) l (n + 1) := by
  intro j hj
  by_cases e : j = n
  · subst e
    rw [List.getElem?_set_self hn]
  · rw [List.getElem?_set_ne (Ne.symm e)]
    exact h j (by omega)

theorem begun_all {k : IntKind} {xs : List Value} {l : List Int} {n : Nat} (h : Begun k xs l n) (hx : xs.length = n) (hl : l.length = n) :
    xs = l.map (Value.int k) := by
  apply List.ext_getElem?
  intro j
  by_cases hj : j < n
  · rw [h j hj]
    simp [List.getElem?_map, List.getElem?_eq_getElem (show j < l.length by omega)]
  · rw [List.getElem?_eq_none (by omega), List.getElem?_eq_none (by simp; omega)]

theorem eqn23 : ∀ (w : World) (a : Option Addr) (n c n' c' : Nat), (binOp .eql 23 (.slice a n c) (.slice none n' c')).run Try.prog w = .ok (.bool a.isNone) w :=
  fun w a n c n' c' => Lib.run_eql_slice_nil w _ _ a n c n' c' Try.underlying23
theorem eqn22 : ∀ (w : World) (a : Option Addr) (n c n' c' : Nat), (binOp .eql 22 (.slice a n c) (.slice none n' c')).run Try.prog w = .ok (.bool a.isNone) w :=
  fun w a n c n' c' => Lib.run_eql_slice_nil w _ _ a n c n' c' Try.underlying22

theorem clone_nil (w : World) : Calls Try.prog 14 #[.slice none 0 0] w fun e w' => e = .returned (.slice none 0 0) ∧ w' = w := by
  have q23 := eqn23
  go_enter Try.func14, Try.ntmps14
  go_wp2
  go_ret
  exact ⟨rfl, rfl⟩

set_option maxHeartbeats 1000000 in
theorem clone_some (x : Addr) (len cap : Nat) (l : List Int) (w : World) (hl : l.length = len) (hb : len ≤ 1048576) (hB : ∀ i, i < len → (x.add i).block < w.heap.size)
    (hx : ∀ i, i < len → w.cell? (x.add i) = some (.int .u8 (l.getD i 0))) :
    Calls Try.prog 14 #[.slice (some x) len cap] w fun e w' => e = .returned (.slice (some ⟨w.heap.size, 0, none⟩) len len) ∧
      w'.ownsRow w.heap.size 5 1 (.slice (some ⟨w.heap.size, 0, none⟩) len len) len (l.map (Value.int .u8)) ∧ Below w.heap.size w w' := by
  obtain ⟨i0, hi, hz0, hz1, hz2⟩ := info_parts info5
  have q23 := eqn23
  go_enter Try.func14, Try.ntmps14
  go_wp2_with (at_make; refine wpList_make_full _ rfl _ _ 23 rfl w.heap.size 5 i0 (.int .u8 0) 1 Try.underlying23 hi hz0 hz1 _ _ _ _ len rfl rfl rfl rfl ?b2 ?b3 (Nat.le_refl _) ?_)
  case b2 => rw [hz2]; omega
  case b3 => unfold maxLen; omega
  intro w0 hown0 hgrow0
  go_wp2
  go_loopw [4] (fun i wr => ∃ (k : Nat) (xs : List Value), k ≤ len ∧ i = .int .i64 k ∧ Begun .u8 xs l k ∧
      wr.ownsRow w.heap.size 5 1 (.slice (some ⟨w.heap.size, 0, none⟩) len len) len xs ∧ Below w.heap.size w wr)
    (fun i _ => len - (intOf i).toNat)
  case atStart => exact ⟨0, _, Nat.zero_le _, rfl, begun_zero _ _ _, hown0, (Below.refl _ _).grown hgrow0 (Nat.le_refl _) (fun k h => by cases h)⟩
  case round =>
    obtain ⟨k, xs, hk, rfl, hbeg, hown, hbel⟩ := hrel
    by_cases hlt : k < len
    · have hnext := fun (h : k < xs.length) => begun_set hbeg h
      have hxc : wr.cell? (x.add k) = some (.int .u8 (l.getD k 0)) := (hbel.cell (hB k hlt)).trans (hx k hlt)
      generalize l.getD k 0 = u at hnext hxc
      have hlen : xs.length = len := by simpa using hown.1
      obtain ⟨old, hold⟩ : ∃ old, wr.cell? ⟨w.heap.size, k, none⟩ = some old := ⟨_, (hown.cellAt k (by omega)).trans (List.getElem?_eq_getElem (by omega))⟩
      have hfr := hown.frozenAt k
      go_wp2
      go_roundw
      case rel => exact ⟨k + 1, _, by omega, by go_num, hnext (by omega), (hown.stored k _).1, hbel.setCell (Nat.le_refl _) _⟩
      case measure => simp [intOf]; omega
    · have hlen : xs.length = len := by simpa using hown.1
      have e := begun_all hbeg (by omega) (by omega)
      have HE : Hid (xs = l.map (Value.int .u8)) := e
      clear e
      go_wp2
      go_ret
      exact ⟨rfl, HE.out ▸ hown, hbel⟩

/-- What a slice of integers that was handed on leads to: nil; or a row at the head of a block, whose first 'len' cells are the numbers l. -/
def Held (k : IntKind) (w : World) (a : Option Addr) (len cap : Nat) (l : List Int) : Prop :=
  l.length = len ∧ ((a = none ∧ len = 0 ∧ cap = 0) ∨
    ∃ g, a = some ⟨g, 0, none⟩ ∧ g < w.heap.size ∧ len ≤ cap ∧ cap ≤ maxLen ∧ ∀ i, i < len → w.cell? ⟨g, i, none⟩ = some (.int k (l.getD i 0)))

theorem Held.below {k : IntKind} {w w' : World} {a : Option Addr} {len cap : Nat} {l : List Int} (h : Held k w a len cap l) (hb : Below w.heap.size w w') : Held k w' a len cap l := by
  refine ⟨h.1, ?_⟩
  rcases h.2 with h | ⟨g, ha, hg, hl, hm, hc⟩
  · exact .inl h
  · exact .inr ⟨g, ha, Nat.lt_of_lt_of_le hg hb.size, hl, hm, fun i hi => (hb.cell (p := ⟨g, i, none⟩) hg).trans (hc i hi)⟩

theorem held_of_owns {k : IntKind} {w : World} {B e g len cap : Nat} {l : List Int} (hl : l.length = len)
    (h : w.ownsRow B e 1 (.slice (some ⟨g, 0, none⟩) len cap) len (l.map (Value.int k))) : Held k w (some ⟨g, 0, none⟩) len cap l := by
  have hlt := (h.lt g rfl).2
  have hcc : len ≤ cap ∧ cap ≤ maxLen := by
    rcases h.2 with ⟨h', _⟩ | ⟨g', cap', cur, h', _, _, hnc, hcm, _⟩
    · simp at h'
    · simp only [Value.slice.injEq, Option.some.injEq, Addr.mk.injEq, and_true, true_and] at h'
      obtain ⟨rfl, rfl⟩ := h'
      exact ⟨hnc, hcm⟩
  refine ⟨hl, .inr ⟨g, rfl, hlt, hcc.1, hcc.2, fun i hi => ?_⟩⟩
  rw [h.cellAt i (by omega), List.getElem?_map]
  simp [List.getElem?_eq_getElem (show i < l.length by omega)]

/-- WHAT THE WALK IS TOLD OF A SLICE OF INTEGERS THAT CAME IN: it is nil; or it leads to a row of 'cap' cells, the numbers 'zs' (the first 'len' are its elements, the rest its spare room), each fitting its kind. -/
def Came (k : IntKind) (w : World) (a : Option Addr) (len cap : Nat) (zs : List Int) : Prop :=
  (a = none ∧ len = 0 ∧ cap = 0 ∧ zs = []) ∨
  ∃ x, a = some x ∧ len ≤ cap ∧ cap ≤ maxLen ∧ zs.length = cap ∧ (∀ i, i < zs.length → w.cell? (x.add i) = some (.int k (zs.getD i 0))) ∧ ∀ n ∈ zs, (Lit.int k n).wf = true

theorem Came.length {k : IntKind} {w : World} {a : Option Addr} {len cap : Nat} {zs : List Int} (h : Came k w a len cap zs) : (zs.take len).length = len := by
  rcases h with ⟨_, rfl, _, rfl⟩ | ⟨x, _, hl, _, hz, _⟩
  · rfl
  · rw [List.length_take]; omega

theorem getD_take (l : List Int) (n i : Nat) (h : i < n) : (l.take n).getD i 0 = l.getD i 0 := by
  simp [List.getD, h]

theorem cloneBytes_any (a : Option Addr) (len cap : Nat) (zs : List Int) (w : World) (hc : Came .u8 w a len cap zs) (hb : len ≤ 1048576) :
    Calls Try.prog 14 #[.slice a len cap] w fun e w' => ∃ a' cap', e = .returned (.slice a' len cap') ∧ Held .u8 w' a' len cap' (zs.take len) ∧ Below w.heap.size w w' := by
  have hlen := hc.length
  rcases hc with ⟨rfl, rfl, rfl, rfl⟩ | ⟨x, rfl, hl, hm, hz, hx, _⟩
  · refine (clone_nil w).mono ?_
    rintro e w' ⟨rfl, rfl⟩
    exact ⟨none, 0, rfl, ⟨rfl, .inl ⟨rfl, rfl, rfl⟩⟩, Below.refl _ _⟩
  · refine (clone_some x len cap (zs.take len) w hlen hb (fun i hi => World.block_lt_of_cell? w _ (hx i (by omega))) (fun i hi => by rw [getD_take _ _ _ hi]; exact hx i (by omega))).mono ?_
    rintro e w' ⟨rfl, hown, hbel⟩
    exact ⟨_, _, rfl, held_of_owns hlen hown, hbel⟩

end Go.Proofs.Qxb6601597a
