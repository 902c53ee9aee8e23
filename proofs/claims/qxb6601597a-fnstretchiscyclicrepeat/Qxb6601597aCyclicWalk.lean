import Derived.Test.Qxb6601597aStretch
import Derived.Deep.QuietTactic
import Derived.BigQuiet
namespace Go.Proofs.Qxb6601597a
open Go.ChangeShapes Go.WideShapes Go.ChangeAt Go.RowKit

theorem Held.cell {k : IntKind} {w : World} {a : Option Addr} {len cap : Nat} {l : List Int} (h : Held k w a len cap l) {i : Nat} (hi : i < len) :
    ∃ g, a = some ⟨g, 0, none⟩ ∧ w.cell? ⟨g, i, none⟩ = some (.int k (l.getD i 0)) := by
  rcases h.2 with ⟨_, h0, _⟩ | ⟨g, ha, _, _, _, hc⟩
  · omega
  · exact ⟨g, ha, hc i hi⟩

set_option maxHeartbeats 1000000 in
theorem cyclic_out (a0 : Option Addr) (len0 cap0 : Nat) (a1 : Int) (w : World) (w1 : (Lit.int .i64 a1).wf = true)
    (hout : 1048576 < len0 ∨ a1 < 0 ∨ 65536 < a1 ∨ 1048576 < len0 + a1 ∨ (len0 = 0 ∧ 0 < a1)) (hlen : len0 ≤ maxLen) :
    Calls Try.prog 8 #[.slice a0 len0 cap0, .int .i64 a1] w fun e w' => e = .returned (.bool true) ∧ Below w.heap.size w w' := by
  have hbd := bounds_i64 w1
  unfold maxLen at hlen
  by_cases c1 : 1048576 < len0
  · go_enter Try.func8, Try.ntmps8
    go_wp2
    go_ret
    exact ⟨rfl, Below.refl _ _⟩
  by_cases c2 : a1 < 0
  · go_enter Try.func8, Try.ntmps8
    go_wp2
    go_ret
    exact ⟨rfl, Below.refl _ _⟩
  by_cases c3 : 65536 < a1
  · go_enter Try.func8, Try.ntmps8
    go_wp2
    go_ret
    exact ⟨rfl, Below.refl _ _⟩
  by_cases c4 : 1048576 < len0 + a1
  · go_enter Try.func8, Try.ntmps8
    go_wp2
    go_ret
    exact ⟨rfl, Below.refl _ _⟩
  have c5 : len0 = 0 := by omega
  have c6 : 0 < a1 := by omega
  subst c5
  go_enter Try.func8, Try.ntmps8
  go_wp2
  go_ret
  exact ⟨rfl, Below.refl _ _⟩

set_option maxHeartbeats 1000000 in
theorem cyclic_zero (a0 : Option Addr) (cap0 : Nat) (z0 : List Int) (w : World) (w0 : Came .u8 w a0 0 cap0 z0) :
    Calls Try.prog 8 #[.slice a0 0 cap0, .int .i64 0] w fun e w' => e = .returned (.bool true) ∧ Below w.heap.size w w' := by
  have q23 := eqn23
  go_enter Try.func8, Try.ntmps8
  go_wp2_with (first | (go_at_call 24; go_in) | fail)
  refine (cloneBytes_any a0 0 cap0 z0 w w0 (by omega)).mono ?_
  rintro e wc ⟨aD, capD, rfl, hD, bD⟩
  go_wp2_with fail
  refine (stretch_any aD 0 capD (z0.take 0) 0 wc hD (by omega) (by omega) (fun _ => rfl)).mono ?_
  rintro e ws ⟨rfl, hS, bS⟩
  replace bS := bD.trans (bS.mono bD.size)
  clear bD hS hD
  go_wp2_with fail
  refine wp_loop_rounds 1 ?_
  rw [rounds_succ]
  go_wp2
  go_ret
  exact ⟨rfl, bS⟩

set_option maxHeartbeats 1000000 in
theorem cyclic_in (a0 : Option Addr) (len0 cap0 : Nat) (z0 : List Int) (n : Nat) (w : World) (w0 : Came .u8 w a0 len0 cap0 z0)
    (c1 : len0 ≤ 1048576) (c3 : n ≤ 65536) (c4 : len0 + n ≤ 1048576) (c5 : 0 < len0) :
    Calls Try.prog 8 #[.slice a0 len0 cap0, .int .i64 n] w fun e w' => e = .returned (.bool true) ∧ Below w.heap.size w w' := by
  have q23 := eqn23
  go_enter Try.func8, Try.ntmps8
  go_wp2_with (first | (go_at_call 24; go_in) | fail)
  refine (cloneBytes_any a0 len0 cap0 z0 w w0 c1).mono ?_
  rintro e wc ⟨aD, capD, rfl, hD, bD⟩
  have hlD : (z0.take len0).length = len0 := hD.1
  generalize z0.take len0 = l at hD hlD
  have HL : Hid (l.length = len0) := hlD
  clear hlD
  go_wp2_with fail
  refine (stretch_any aD len0 capD l n wc hD c1 c3 (fun h => by omega)).mono ?_
  rintro e ws ⟨rfl, hS, bS⟩
  replace hD := hD.below bS
  replace bS := bD.trans (bS.mono bD.size)
  clear bD
  go_wp2_with fail
  go_loopw [6] (fun i wr => ∃ k : Nat, k ≤ n ∧ i = .int .i64 k ∧ Held .u8 wr aD len0 capD l ∧ Held .u8 wr (some ⟨wc.heap.size, 0, none⟩) n n (cyc l n) ∧ Below w.heap.size w wr)
    (fun i _ => n - (intOf i).toNat)
  case atStart => exact ⟨0, Nat.zero_le _, rfl, hD, hS, bS⟩
  case round =>
    obtain ⟨k, hk, rfl, hDr, hSr, bSr⟩ := hrel
    by_cases hlt : k < n
    · have hml : k % len0 < len0 := Nat.mod_lt _ c5
      obtain ⟨g1, ha1, hc1⟩ := hDr.cell hml
      obtain ⟨g2, ha2, hc2⟩ := hSr.cell hlt
      rw [cyc_getD _ _ _ hlt, HL.out] at hc2
      cases ha2
      subst ha1
      generalize l.getD (k % len0) 0 = u at hc1 hc2
      have hltI : (k : Int) < (n : Int) := by omega
      have hmlI : (k : Int) % (len0 : Int) < (len0 : Int) := Int.emod_lt_of_pos _ (by omega)
      have hmlJ : 0 ≤ (k : Int) % (len0 : Int) := Int.emod_nonneg _ (by omega)
      go_wp2_with fail
      go_quiet (fail)
      go_wp2
      go_roundw
      case rel => exact ⟨k + 1, by omega, by go_num, hDr.below (below_drewN (Below.refl _ _) _), hSr.below (below_drewN (Below.refl _ _) _), below_drewN bSr _⟩
      case measure => simp [intOf]; omega
    · go_wp2
      go_ret
      exact ⟨rfl, bSr⟩

theorem cyclic_walk (a0 : Option Addr) (len0 cap0 : Nat) (z0 : List Int) (a1 : Int) (w : World) (w0 : Came .u8 w a0 len0 cap0 z0) (w1 : (Lit.int .i64 a1).wf = true) :
    Calls Try.prog 8 #[.slice a0 len0 cap0, .int .i64 a1] w fun e w' => e = .returned (.bool true) ∧ Below w.heap.size w w' := by
  have hlm : len0 ≤ maxLen := by
    rcases w0 with ⟨_, rfl, _⟩ | ⟨_, _, h1, h2, _⟩
    · exact Nat.zero_le _
    · omega
  by_cases hout : 1048576 < len0 ∨ a1 < 0 ∨ 65536 < a1 ∨ 1048576 < len0 + a1 ∨ (len0 = 0 ∧ 0 < a1)
  · exact cyclic_out a0 len0 cap0 a1 w w1 hout hlm
  obtain ⟨n, rfl⟩ : ∃ n : Nat, a1 = n := ⟨a1.toNat, by omega⟩
  by_cases h0 : len0 = 0
  · subst h0
    obtain rfl : n = 0 := by omega
    exact cyclic_zero a0 cap0 z0 w w0
  · exact cyclic_in a0 len0 cap0 z0 n w w0 (by omega) (by omega) (by omega) (by omega)
end Go.Proofs.Qxb6601597a
