import Derived.Test.Qxb6601597aSepOut
import Derived.Test.Qxb6601597aModel
namespace Go.Proofs.Qxb6601597a
open Go.ChangeShapes Go.WideShapes Go.ChangeAt Go.RowKit

set_option maxHeartbeats 4000000 in
theorem bit_out (a0 : Option Addr) (len0 cap0 : Nat) (a1 : Option Addr) (len1 cap1 : Nat) (w : World)
    (h0 : len0 ≤ maxLen) (h1 : len1 ≤ maxLen) (hout : 1048576 < 8 * len0 + len1) :
    Calls Try.prog 3 #[.slice a0 len0 cap0, .slice a1 len1 cap1] w fun e w' => e = .returned (.bool true) ∧ Below w.heap.size w w' := by
  unfold maxLen at h0 h1
  by_cases c1 : 1048576 < len0
  · go_enter Try.func3, Try.ntmps3
    go_wp2
    go_ret
    exact ⟨rfl, Below.refl _ _⟩
  by_cases c2 : 1048576 < len1
  · go_enter Try.func3, Try.ntmps3
    go_wp2
    go_ret
    exact ⟨rfl, Below.refl _ _⟩
  by_cases c3 : 1048576 < len0 + len1
  · go_enter Try.func3, Try.ntmps3
    go_wp2
    go_ret
    exact ⟨rfl, Below.refl _ _⟩
  by_cases c6 : 131072 < len0
  · go_enter Try.func3, Try.ntmps3
    go_wp2
    go_ret
    exact ⟨rfl, Below.refl _ _⟩
  go_enter Try.func3, Try.ntmps3
  go_wp2
  go_ret
  exact ⟨rfl, Below.refl _ _⟩

set_option maxHeartbeats 2000000 in
theorem bit_bad (a0 : Option Addr) (len0 cap0 : Nat) (z0 : List Int) (a1 : Option Addr) (len1 cap1 : Nat) (w : World)
    (w0 : Came .i64 w a0 len0 cap0 z0) (hin : 8 * len0 + len1 ≤ 1048576) (c1 : okIx (z0.take len0) len1 = false) :
    Calls Try.prog 3 #[.slice a0 len0 cap0, .slice a1 len1 cap1] w fun e w' => e = .returned (.bool true) ∧ Below w.heap.size w w' := by
  go_enter Try.func3, Try.ntmps3
  go_wp2_with (first | (go_at_call 11; go_in) | fail)
  refine (indices_any a0 len0 cap0 len1 z0 w w0 (by omega)).mono ?_
  rintro e w' ⟨rfl, rfl⟩
  rw [c1]
  go_wp2
  go_ret
  exact ⟨rfl, Below.refl _ _⟩

theorem strAt (L : List Nat) (hL : ∀ c ∈ L, c < 256) (i : Nat) (h : i < (strOfNums (up L)).size) : ((strOfNums (up L))[i]'h).toNat = L.getD i 0 := by
  have hi : i < L.length := by rw [strOfNums_size, up_length] at h; exact h
  have e : (strOfNums (up L))[i]'h = (strOfNums (up L)).data.toList[i]'(by rw [strData, List.length_map]; exact hi) := by
    rw [Array.getElem_toList]; rfl
  rw [e]
  have e2 : (strOfNums (up L)).data.toList[i]'(by rw [strData, List.length_map]; exact hi) = UInt8.ofNat (L[i]'hi) := by
    have := strData L
    simp only [this, List.getElem_map]
  rw [e2]
  have := hL _ (List.getElem_mem hi)
  simp [List.getD, List.getElem?_eq_getElem hi]
  omega

set_option maxHeartbeats 4000000 in
theorem bit_in (a0 : Option Addr) (len0 cap0 : Nat) (z0 : List Int) (a1 : Option Addr) (len1 cap1 : Nat) (z1 : List Int) (w : World)
    (w0 : Came .i64 w a0 len0 cap0 z0) (w1 : Came .u8 w a1 len1 cap1 z1) (hin : 8 * len0 + len1 ≤ 1048576) (c1 : okIx (z0.take len0) len1 = true) :
    Calls Try.prog 3 #[.slice a0 len0 cap0, .slice a1 len1 cap1] w fun e w' => e = .returned (.bool true) ∧ Below w.heap.size w w' := by
  go_enter Try.func3, Try.ntmps3
  go_wp2_with (first | (go_at_call 11; go_in) | fail)
  refine (indices_any a0 len0 cap0 len1 z0 w w0 (by omega)).mono ?_
  rintro e w' ⟨rfl, rfl⟩
  rw [c1]
  have C1 : Hid (okIx (z0.take len0) len1 = true) := c1
  clear c1
  go_wp2_with fail
  refine (cloneInts_any a0 len0 cap0 z0 _ w0 (by omega)).mono ?_
  rintro e wa ⟨aE, capE, rfl, hE, bE⟩
  have w1' : Came .u8 wa a1 len1 cap1 z1 := w1.below bE
  clear w0
  go_wp2_with fail
  refine (cloneBytes_any a1 len1 cap1 z1 wa w1' (by omega)).mono ?_
  rintro e wb ⟨aA, capA, rfl, hA, bA⟩
  replace hE := hE.below bA
  replace bA := bE.trans (bA.mono bE.size)
  clear bE w1'
  have hbyA := w1.bytes
  have hixA := C1.out
  clear w1
  generalize z0.take len0 = l0 at hE hixA
  generalize z1.take len1 = l1 at hA hbyA
  rw [← up_dn l0 (okIx_nonneg hixA)] at hE
  rw [← up_dn l1 (fun x hx => (hbyA x hx).1)] at hA
  have EA : Hid (∀ wy, Held .i64 wy aE len0 capE (up (dn l0)) → Held .u8 wy aA len1 capA (up (dn l1)) → EncArgs wy aE len0 capE aA len1 capA (dn l0) (dn l1)) := fun wy h1 h2 =>
    ⟨h1, h2, fun i hi => by rw [dn_getD]; have := okIx_at hixA i (by rw [← dn_length, ← up_length, h1.1]; exact hi); omega, fun i _ => getD_byte hbyA i, by omega, by omega⟩
  clear hixA hbyA C1
  generalize dn l0 = ix at *
  generalize dn l1 = A at *
  have HIL : Hid (ix.length = len0) := (up_length ix).symm.trans hE.1
  go_wp2_with fail
  refine (encode_any _ _ _ _ _ _ ix A _ (EA.out _ hE hA)).mono ?_
  rintro e w5 ⟨rfl, b5⟩
  replace hE := hE.below b5
  replace hA := hA.below b5
  replace b5 := bA.trans (b5.mono bA.size)
  clear bA
  go_wp2_with fail
  refine (model_any _ _ _ _ _ _ ix A _ (EA.out _ hE hA)).mono ?_
  rintro e w6 ⟨cp, rfl, hW, b6⟩
  replace b6 := b5.trans (b6.mono b5.size)
  clear b5 hE hA EA
  have hsz : (enc (listed ix A)).length = (strOfNums (up (enc (listed ix A)))).size := by rw [strOfNums_size, up_length]
  have hat := strAt (enc (listed ix A)) (enc_lt _)
  have hmx : (strOfNums (up (enc (listed ix A)))).size ≤ 300000 := by
    rw [← hsz, enc_length, listed_length, HIL.out]
    omega
  rw [hsz] at hW ⊢
  clear hsz
  generalize strOfNums (up (enc (listed ix A))) = s at hat hW hmx ⊢
  generalize enc (listed ix A) = L at hat hW
  have HAT : Hid (∀ (i : Nat) (h : i < s.size), (s[i]'h).toNat = L.getD i 0) := hat
  clear hat
  go_wp2_with fail
  go_loopw [7] (fun si wr => ∃ k : Nat, k ≤ s.size ∧ si = .int .i64 k ∧ Held .u8 wr (some ⟨w5.heap.size, 0, none⟩) s.size cp (up L) ∧ Below w'.heap.size w' wr)
    (fun si _ => s.size - (intOf si).toNat)
  case atStart => exact ⟨0, Nat.zero_le _, rfl, hW, b6⟩
  case round =>
    obtain ⟨k, hk, rfl, hWr, bWr⟩ := hrel
    by_cases hlt : k < s.size
    · obtain ⟨g2, ha2, cW, _⟩ := heldCells hWr hlt
      cases ha2
      have c1 := cW k hlt
      rw [← HAT.out k hlt] at c1
      clear cW
      have hltI : (k : Int) < (s.size : Int) := by omega
      go_wp2_with fail
      go_quiet (fail)
      go_wp2
      go_roundw
      case rel => exact ⟨k + 1, by omega, by go_num, hWr.below (below_drewN (Below.refl _ _) _), below_drewN bWr _⟩
      case measure => simp [intOf]; omega
    · go_wp2
      go_ret
      exact ⟨rfl, bWr⟩

theorem bit_walk (a0 : Option Addr) (len0 cap0 : Nat) (z0 : List Int) (a1 : Option Addr) (len1 cap1 : Nat) (z1 : List Int) (w : World)
    (w0 : Came .i64 w a0 len0 cap0 z0) (w1 : Came .u8 w a1 len1 cap1 z1) :
    Calls Try.prog 3 #[.slice a0 len0 cap0, .slice a1 len1 cap1] w fun e w' => e = .returned (.bool true) ∧ Below w.heap.size w w' := by
  have l0 : len0 ≤ maxLen := by
    rcases w0 with ⟨_, rfl, _⟩ | ⟨_, _, h1, h2, _⟩
    · exact Nat.zero_le _
    · omega
  have l1 : len1 ≤ maxLen := by
    rcases w1 with ⟨_, rfl, _⟩ | ⟨_, _, h1, h2, _⟩
    · exact Nat.zero_le _
    · omega
  by_cases hout : 1048576 < 8 * len0 + len1
  · exact bit_out a0 len0 cap0 a1 len1 cap1 w l0 l1 hout
  by_cases c1 : okIx (z0.take len0) len1 = true
  · exact bit_in a0 len0 cap0 z0 a1 len1 cap1 z1 w w0 w1 (by omega) c1
  · exact bit_bad a0 len0 cap0 z0 a1 len1 cap1 w w0 (by omega) (by simpa using c1)
end Go.Proofs.Qxb6601597a
