import Derived.Test.Qxb6601597aStretch
import Derived.Deep.QuietTactic
import Derived.BigQuiet
namespace Go.Proofs.Qxb6601597a
open Go.ChangeShapes Go.WideShapes Go.ChangeAt Go.RowKit

theorem Held.cell {k : IntKind} {w : World} {a : Option Addr} {len cap : Nat} {l : List Int} (h : Held k w a len cap l) {i : Nat} (hi : i < len) :
    ∃ g, a = some ⟨g, 0, none⟩ ∧ w.cell? ⟨g, i, none⟩ = some (.int k (l.getD i 0)) := by
  rcases h.2 with ⟨_, h0, _⟩ | ⟨g, ha, _, _, _, hc⟩
  · omega
  · exact ⟨g, ha, hc i hi⟩

set_option maxHeartbeats 2000000 in
theorem sos_out (a0 : Option Addr) (len0 cap0 : Nat) (a1 a2 : Int) (w : World) (w1 : (Lit.int .i64 a1).wf = true) (w2 : (Lit.int .i64 a2).wf = true)
    (hout : 1048576 < len0 ∨ a1 < 0 ∨ 65536 < a1 ∨ a2 < 0 ∨ 65536 < a2 ∨ 1048576 < len0 + a1 + a2 ∨ (len0 = 0 ∧ 0 < a1) ∨ (a1 = 0 ∧ 0 < a2)) (hlen : len0 ≤ maxLen) :
    Calls Try.prog 10 #[.slice a0 len0 cap0, .int .i64 a1, .int .i64 a2] w fun e w' => e = .returned (.bool true) ∧ Below w.heap.size w w' := by
  have hbd1 := bounds_i64 w1
  have hbd2 := bounds_i64 w2
  unfold maxLen at hlen
  by_cases c1 : 1048576 < len0
  · go_enter Try.func10, Try.ntmps10
    go_wp2
    go_ret
    exact ⟨rfl, Below.refl _ _⟩
  by_cases c2 : a1 < 0
  · go_enter Try.func10, Try.ntmps10
    go_wp2
    go_ret
    exact ⟨rfl, Below.refl _ _⟩
  by_cases c3 : 65536 < a1
  · go_enter Try.func10, Try.ntmps10
    go_wp2
    go_ret
    exact ⟨rfl, Below.refl _ _⟩
  by_cases c4 : a2 < 0
  · go_enter Try.func10, Try.ntmps10
    go_wp2
    go_ret
    exact ⟨rfl, Below.refl _ _⟩
  by_cases c5 : 65536 < a2
  · go_enter Try.func10, Try.ntmps10
    go_wp2
    go_ret
    exact ⟨rfl, Below.refl _ _⟩
  by_cases c6 : 1048576 < len0 + a1 + a2
  · go_enter Try.func10, Try.ntmps10
    go_wp2
    go_ret
    exact ⟨rfl, Below.refl _ _⟩
  by_cases c7 : len0 = 0 ∧ 0 < a1
  · obtain ⟨c7, c8⟩ := c7
    subst c7
    go_enter Try.func10, Try.ntmps10
    go_wp2
    go_ret
    exact ⟨rfl, Below.refl _ _⟩
  have c8 : a1 = 0 := by omega
  have c9 : 0 < a2 := by omega
  subst c8
  clear c7 hout
  by_cases c10 : len0 = 0
  · subst c10
    go_enter Try.func10, Try.ntmps10
    go_wp2
    go_ret
    exact ⟨rfl, Below.refl _ _⟩
  · go_enter Try.func10, Try.ntmps10
    go_wp2
    go_ret
    exact ⟨rfl, Below.refl _ _⟩

/-- No byte is asked for twice over: n = 0, m = 0. -/
theorem sos_zero (a0 : Option Addr) (len0 cap0 : Nat) (z0 : List Int) (w : World) (w0 : Came .u8 w a0 len0 cap0 z0) (c1 : len0 ≤ 1048576) :
    Calls Try.prog 10 #[.slice a0 len0 cap0, .int .i64 0, .int .i64 0] w fun e w' => e = .returned (.bool true) ∧ Below w.heap.size w w' := by
  by_cases c10 : len0 = 0
  · subst c10
    go_enter Try.func10, Try.ntmps10
    go_wp2_with (first | (go_at_call 27; go_in) | fail)
    refine (cloneBytes_any a0 0 cap0 z0 w w0 (by omega)).mono ?_
    rintro e wc ⟨aD, capD, rfl, hD, bD⟩
    go_wp2_with fail
    refine (stretch_any aD 0 capD (z0.take 0) 0 wc hD (by omega) (by omega) (fun _ => rfl)).mono ?_
    rintro e ws ⟨rfl, hS, bS⟩
    replace bS := bD.trans (bS.mono bD.size)
    clear bD hD
    go_wp2_with fail
    refine (stretch_any _ 0 0 _ 0 ws hS (by omega) (by omega) (fun _ => rfl)).mono ?_
    rintro e wt ⟨rfl, hT, bT⟩
    replace bT := bS.trans (bT.mono bS.size)
    clear hT bS hS
    go_wp2_with fail
    refine wp_loop_rounds 1 ?_
    rw [rounds_succ]
    go_wp2
    go_ret
    exact ⟨rfl, bT⟩
  · go_enter Try.func10, Try.ntmps10
    go_wp2_with (first | (go_at_call 27; go_in) | fail)
    refine (cloneBytes_any a0 len0 cap0 z0 w w0 c1).mono ?_
    rintro e wc ⟨aD, capD, rfl, hD, bD⟩
    go_wp2_with fail
    refine (stretch_any aD len0 capD (z0.take len0) 0 wc hD (by omega) (by omega) (fun _ => rfl)).mono ?_
    rintro e ws ⟨rfl, hS, bS⟩
    replace bS := bD.trans (bS.mono bD.size)
    clear bD hD
    go_wp2_with fail
    refine (stretch_any _ 0 0 _ 0 ws hS (by omega) (by omega) (fun _ => rfl)).mono ?_
    rintro e wt ⟨rfl, hT, bT⟩
    replace bT := bS.trans (bT.mono bS.size)
    clear hT bS hS
    go_wp2_with fail
    refine wp_loop_rounds 1 ?_
    rw [rounds_succ]
    go_wp2
    go_ret
    exact ⟨rfl, bT⟩

set_option maxHeartbeats 2000000 in
theorem sos_in (a0 : Option Addr) (len0 cap0 : Nat) (z0 : List Int) (n m : Nat) (w : World) (w0 : Came .u8 w a0 len0 cap0 z0)
    (c1 : len0 ≤ 1048576) (c2 : n ≤ 65536) (c3 : m ≤ 65536) (c4 : len0 + n + m ≤ 1048576) (c5 : 0 < len0) (c6 : 0 < n) :
    Calls Try.prog 10 #[.slice a0 len0 cap0, .int .i64 n, .int .i64 m] w fun e w' => e = .returned (.bool true) ∧ Below w.heap.size w w' := by
  go_enter Try.func10, Try.ntmps10
  go_wp2_with (first | (go_at_call 27; go_in) | fail)
  refine (cloneBytes_any a0 len0 cap0 z0 w w0 c1).mono ?_
  rintro e wc ⟨aD, capD, rfl, hD, bD⟩
  have hlD : (z0.take len0).length = len0 := hD.1
  generalize z0.take len0 = l at hD hlD
  have HL : Hid (l.length = len0) := hlD
  clear hlD
  go_wp2_with fail
  refine (stretch_any aD len0 capD l n wc hD c1 c2 (fun h => by omega)).mono ?_
  rintro e ws ⟨rfl, hS, bS⟩
  replace hD := hD.below bS
  replace bS := bD.trans (bS.mono bD.size)
  clear bD
  go_wp2_with fail
  refine (stretch_any _ n n _ m ws hS (by omega) c3 (fun h => by omega)).mono ?_
  rintro e wt ⟨rfl, hT, bT⟩
  replace hD := hD.below bT
  replace bT := bS.trans (bT.mono bS.size)
  clear bS hS
  go_wp2_with fail
  go_loopw [9] (fun i wr => ∃ k : Nat, k ≤ m ∧ i = .int .i64 k ∧ Held .u8 wr aD len0 capD l ∧ Held .u8 wr (some ⟨ws.heap.size, 0, none⟩) m m (cyc (cyc l n) m) ∧ Below w.heap.size w wr)
    (fun i _ => m - (intOf i).toNat)
  case atStart => exact ⟨0, Nat.zero_le _, rfl, hD, hT, bT⟩
  case round =>
    obtain ⟨k, hk, rfl, hDr, hTr, bTr⟩ := hrel
    by_cases hlt : k < m
    · have hml : k % n % len0 < len0 := Nat.mod_lt _ c5
      have hmn : k % n < n := Nat.mod_lt _ c6
      obtain ⟨g1, ha1, hc1⟩ := hDr.cell hml
      obtain ⟨g2, ha2, hc2⟩ := hTr.cell hlt
      rw [cyc_getD _ _ _ hlt, cyc_length, cyc_getD _ _ _ hmn, HL.out] at hc2
      subst ha1
      cases ha2
      generalize l.getD (k % n % len0) 0 = u at hc1 hc2
      have hltI : (k : Int) < (m : Int) := by omega
      have hmnI : (k : Int) % (n : Int) < (n : Int) := Int.emod_lt_of_pos _ (by omega)
      have hmnJ : 0 ≤ (k : Int) % (n : Int) := Int.emod_nonneg _ (by omega)
      have hmlI : (k : Int) % (n : Int) % (len0 : Int) < (len0 : Int) := Int.emod_lt_of_pos _ (by omega)
      have hmlJ : 0 ≤ (k : Int) % (n : Int) % (len0 : Int) := Int.emod_nonneg _ (by omega)
      go_wp2_with fail
      go_quiet (fail)
      go_wp2
      go_roundw
      case rel => exact ⟨k + 1, by omega, by go_num, hDr.below (below_drewN (Below.refl _ _) _), hTr.below (below_drewN (Below.refl _ _) _), below_drewN bTr _⟩
      case measure => simp [intOf]; omega
    · go_wp2
      go_ret
      exact ⟨rfl, bTr⟩

theorem sos_walk (a0 : Option Addr) (len0 cap0 : Nat) (z0 : List Int) (a1 a2 : Int) (w : World) (w0 : Came .u8 w a0 len0 cap0 z0) (w1 : (Lit.int .i64 a1).wf = true) (w2 : (Lit.int .i64 a2).wf = true) :
    Calls Try.prog 10 #[.slice a0 len0 cap0, .int .i64 a1, .int .i64 a2] w fun e w' => e = .returned (.bool true) ∧ Below w.heap.size w w' := by
  have hlm : len0 ≤ maxLen := by
    rcases w0 with ⟨_, rfl, _⟩ | ⟨_, _, h1, h2, _⟩
    · exact Nat.zero_le _
    · omega
  by_cases hout : 1048576 < len0 ∨ a1 < 0 ∨ 65536 < a1 ∨ a2 < 0 ∨ 65536 < a2 ∨ 1048576 < len0 + a1 + a2 ∨ (len0 = 0 ∧ 0 < a1) ∨ (a1 = 0 ∧ 0 < a2)
  · exact sos_out a0 len0 cap0 a1 a2 w w1 w2 hout hlm
  obtain ⟨n, rfl⟩ : ∃ n : Nat, a1 = n := ⟨a1.toNat, by omega⟩
  obtain ⟨m, rfl⟩ : ∃ n : Nat, a2 = n := ⟨a2.toNat, by omega⟩
  by_cases h0 : n = 0
  · subst h0
    obtain rfl : m = 0 := by omega
    exact sos_zero a0 len0 cap0 z0 w w0 (by omega)
  · exact sos_in a0 len0 cap0 z0 n m w w0 (by omega) (by omega) (by omega) (by omega) (by omega) (by omega)
end Go.Proofs.Qxb6601597a
