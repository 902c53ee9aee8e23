import Derived.Test.Qxb6601597aSepOut
namespace Go.Proofs.Qxb6601597a
open Go.ChangeShapes Go.WideShapes Go.ChangeAt Go.RowKit

set_option maxHeartbeats 4000000 in
theorem sep_in (a0 : Option Addr) (len0 cap0 : Nat) (z0 : List Int) (a1 : Option Addr) (len1 cap1 : Nat) (z1 : List Int) (a2 : Option Addr) (len2 cap2 : Nat) (z2 : List Int) (w : World)
    (w0 : Came .i64 w a0 len0 cap0 z0) (w1 : Came .u8 w a1 len1 cap1 z1) (w2 : Came .u8 w a2 len2 cap2 z2)
    (hin : 8 * len0 + len1 + len2 ≤ 1048576) (c1 : okIx (z0.take len0) len1 = true) (c2 : okIx (z0.take len0) len2 = true) :
    Calls Try.prog 5 #[.slice a0 len0 cap0, .slice a1 len1 cap1, .slice a2 len2 cap2] w fun e w' => e = .returned (.bool true) ∧ Below w.heap.size w w' := by
  go_enter Try.func5, Try.ntmps5
  go_wp2_with (first | (go_at_call 20; go_in) | fail)
  refine (indices_any a0 len0 cap0 len1 z0 w w0 (by omega)).mono ?_
  rintro e w' ⟨rfl, rfl⟩
  rw [c1]
  go_wp2_with fail
  refine (indices_any a0 len0 cap0 len2 z0 _ w0 (by omega)).mono ?_
  rintro e w' ⟨rfl, rfl⟩
  rw [c2]
  go_wp2_with fail
  have C1 : Hid (okIx (z0.take len0) len1 = true) := c1
  have C2 : Hid (okIx (z0.take len0) len2 = true) := c2
  clear c1 c2
  refine (cloneInts_any a0 len0 cap0 z0 _ w0 (by omega)).mono ?_
  rintro e wa ⟨aE, capE, rfl, hE, bE⟩
  have w1' : Came .u8 wa a1 len1 cap1 z1 := w1.below bE
  have w2' : Came .u8 wa a2 len2 cap2 z2 := w2.below bE
  clear w0
  go_wp2_with fail
  refine (cloneBytes_any a1 len1 cap1 z1 wa w1' (by omega)).mono ?_
  rintro e wb ⟨aA, capA, rfl, hA, bA⟩
  replace hE := hE.below bA
  replace w2' := w2'.below bA
  replace bA := bE.trans (bA.mono bE.size)
  clear bE w1'
  go_wp2_with fail
  refine (cloneBytes_any a2 len2 cap2 z2 wb w2' (by omega)).mono ?_
  rintro e wx ⟨aB, capB, rfl, hB, bB⟩
  replace hE := hE.below bB
  replace hA := hA.below bB
  replace bB := bA.trans (bB.mono bA.size)
  clear bA w2'
  have hbyA := w1.bytes
  have hbyB := w2.bytes
  have hixA := C1.out
  have hixB := C2.out
  clear w1 w2
  generalize z0.take len0 = l0 at hE hixA hixB
  generalize z1.take len1 = l1 at hA hbyA
  generalize z2.take len2 = l2 at hB hbyB
  rw [← up_dn l0 (okIx_nonneg hixA)] at hE
  rw [← up_dn l1 (fun x hx => (hbyA x hx).1)] at hA
  rw [← up_dn l2 (fun x hx => (hbyB x hx).1)] at hB
  have EA : ∀ wy, Held .i64 wy aE len0 capE (up (dn l0)) → Held .u8 wy aA len1 capA (up (dn l1)) → EncArgs wy aE len0 capE aA len1 capA (dn l0) (dn l1) := fun wy h1 h2 =>
    ⟨h1, h2, fun i hi => by rw [dn_getD]; have := okIx_at hixA i (by rw [← dn_length, ← up_length, h1.1]; exact hi); omega, fun i _ => getD_byte hbyA i, by omega, by omega⟩
  have EB : ∀ wy, Held .i64 wy aE len0 capE (up (dn l0)) → Held .u8 wy aB len2 capB (up (dn l2)) → EncArgs wy aE len0 capE aB len2 capB (dn l0) (dn l2) := fun wy h1 h2 =>
    ⟨h1, h2, fun i hi => by rw [dn_getD]; have := okIx_at hixB i (by rw [← dn_length, ← up_length, h1.1]; exact hi); omega, fun i _ => getD_byte hbyB i, by omega, by omega⟩
  have HA := EA wx hE hA
  have HB := EB wx hE hB
  have EA' : Hid (∀ wy, Held .i64 wy aE len0 capE (up (dn l0)) → Held .u8 wy aA len1 capA (up (dn l1)) → EncArgs wy aE len0 capE aA len1 capA (dn l0) (dn l1)) := EA
  have EB' : Hid (∀ wy, Held .i64 wy aE len0 capE (up (dn l0)) → Held .u8 wy aB len2 capB (up (dn l2)) → EncArgs wy aE len0 capE aB len2 capB (dn l0) (dn l2)) := EB
  clear EA EB hixA hixB hbyA hbyB C1 C2
  generalize dn l0 = ix at *
  generalize dn l1 = A at *
  generalize dn l2 = B at *
  have HIL : Hid (ix.length = len0) := (up_length ix).symm.trans hE.1
  go_wp2_with fail
  go_loopw [7, 8] (fun sm si wr => ∃ k : Nat, k ≤ len0 ∧ sm = .bool true ∧ si = .int .i64 k ∧ Hid (∀ j, j < k → A.getD (ix.getD j 0) 0 = B.getD (ix.getD j 0) 0) ∧
      Held .i64 wr aE len0 capE (up ix) ∧ Held .u8 wr aA len1 capA (up A) ∧ Held .u8 wr aB len2 capB (up B) ∧ Below w'.heap.size w' wr)
    (fun _ si _ => len0 - (intOf si).toNat)
  case atStart => exact ⟨0, Nat.zero_le _, rfl, rfl, fun j h => absurd h (Nat.not_lt_zero _), hE, hA, hB, bB⟩
  case round =>
    obtain ⟨k, hk, rfl, rfl, HS, hEr, hAr, hBr, bBr⟩ := hrel
    have hfA := HA.hix
    by_cases hlt : k < len0
    · have hjA := HA.hix k hlt
      have hjB := HB.hix k hlt
      obtain ⟨gE, rfl, cE, _⟩ := heldCells hEr hlt
      obtain ⟨gA, rfl, cA, _⟩ := heldCells hAr hjA
      obtain ⟨gB, rfl, cB, _⟩ := heldCells hBr hjB
      have c1 := cE k hlt
      have c2 := cA _ hjA
      have c3 := cB _ hjB
      have HNext : Hid (A.getD (ix.getD k 0) 0 = B.getD (ix.getD k 0) 0 → ∀ j, j < k + 1 → A.getD (ix.getD j 0) 0 = B.getD (ix.getD j 0) 0) := by
        intro h j hj
        by_cases e : j = k
        · subst e; exact h
        · exact HS.out j (by omega)
      have HDiff : Hid (A.getD (ix.getD k 0) 0 ≠ B.getD (ix.getD k 0) 0 → ((strOfNums (up (enc (listed ix A)))).toList == (strOfNums (up (enc (listed ix B)))).toList) = false) := by
        intro h
        have hi := HIL.out
        exact str_other (by simp [listed]) (listed_lt (n := len1) (fun i hi => HA.hix i (by omega)) HA.hbl) (listed_lt (n := len2) (fun i hi => HB.hix i (by omega)) HB.hbl) (listed_other (j := k) (by omega) h)
      clear HA HB cE cA cB hfA
      generalize A.getD (ix.getD k 0) 0 = x at c2 HNext HDiff
      generalize B.getD (ix.getD k 0) 0 = y at c3 HNext HDiff
      generalize ix.getD k 0 = j at c1 c2 c3 hjA hjB
      have hjAI : (j : Int) < (len1 : Int) := by omega
      have hjBI : (j : Int) < (len2 : Int) := by omega
      have hkI : (k : Int) < (len0 : Int) := by omega
      by_cases hxy : x = y
      · have HN1 : Hid (∀ j, j < k + 1 → A.getD (ix.getD j 0) 0 = B.getD (ix.getD j 0) 0) := HNext.out hxy
        clear HNext HDiff
        subst hxy
        go_wp2_with fail
        go_quiet (fail)
        go_wp2_with fail
        go_roundw
        case rel => exact ⟨k + 1, by omega, rfl, by go_num, HN1, hEr.below (below_drewN (Below.refl _ _) _), hAr.below (below_drewN (Below.refl _ _) _), hBr.below (below_drewN (Below.refl _ _) _), below_drewN bBr _⟩
        case measure => simp [intOf]; omega
      · have hq : ((x : Int) != (y : Int)) = true := by simp; omega
        have HD : Hid (((strOfNums (up (enc (listed ix A)))).toList == (strOfNums (up (enc (listed ix B)))).toList) = false) := HDiff.out hxy
        clear HNext HDiff
        go_wp2_with fail
        go_quiet (fail)
        replace hEr := hEr.below (below_drewN (Below.refl _ _) nq)
        replace hAr := hAr.below (below_drewN (Below.refl _ _) nq)
        replace hBr := hBr.below (below_drewN (Below.refl _ _) nq)
        replace bBr := below_drewN bBr nq
        go_wp2_with fail
        refine (encode_any _ _ _ _ _ _ ix A _ (EA'.out _ hEr hAr)).mono ?_
        rintro e w5 ⟨rfl, b5⟩
        replace hEr := hEr.below b5
        replace hBr := hBr.below b5
        replace b5 := bBr.trans (b5.mono bBr.size)
        clear bBr hAr
        go_wp2_with fail
        refine (encode_any _ _ _ _ _ _ ix B _ (EB'.out _ hEr hBr)).mono ?_
        rintro e w6 ⟨rfl, b6⟩
        replace b6 := b5.trans (b6.mono b5.size)
        clear b5 hEr hBr
        have hd := HD.out
        generalize strOfNums (up (enc (listed ix A))) = sA at hd
        generalize strOfNums (up (enc (listed ix B))) = sB at hd
        go_wp2
        go_ret
        exact ⟨rfl, b6⟩
    · have HD : Hid (((strOfNums (up (enc (listed ix A)))).toList == (strOfNums (up (enc (listed ix B)))).toList) = true) :=
        str_same (listed_same fun j hj => HS.out j (by have := HIL.out; omega))
      clear HA HB hfA
      go_wp2_with fail
      refine (encode_any _ _ _ _ _ _ ix A _ (EA'.out _ hEr hAr)).mono ?_
      rintro e w5 ⟨rfl, b5⟩
      replace hEr := hEr.below b5
      replace hBr := hBr.below b5
      replace b5 := bBr.trans (b5.mono bBr.size)
      clear bBr hAr
      go_wp2_with fail
      refine (encode_any _ _ _ _ _ _ ix B _ (EB'.out _ hEr hBr)).mono ?_
      rintro e w6 ⟨rfl, b6⟩
      replace b6 := b5.trans (b6.mono b5.size)
      clear b5 hEr hBr
      have hd := HD.out
      generalize strOfNums (up (enc (listed ix A))) = sA at hd
      generalize strOfNums (up (enc (listed ix B))) = sB at hd
      go_wp2
      go_ret
      exact ⟨rfl, b6⟩

theorem Came.le {k : IntKind} {w : World} {a : Option Addr} {len cap : Nat} {zs : List Int} (h : Came k w a len cap zs) : len ≤ maxLen := by
  rcases h with ⟨_, rfl, _⟩ | ⟨_, _, h1, h2, _⟩
  · exact Nat.zero_le _
  · omega

theorem sep_walk (a0 : Option Addr) (len0 cap0 : Nat) (z0 : List Int) (a1 : Option Addr) (len1 cap1 : Nat) (z1 : List Int) (a2 : Option Addr) (len2 cap2 : Nat) (z2 : List Int) (w : World)
    (w0 : Came .i64 w a0 len0 cap0 z0) (w1 : Came .u8 w a1 len1 cap1 z1) (w2 : Came .u8 w a2 len2 cap2 z2) :
    Calls Try.prog 5 #[.slice a0 len0 cap0, .slice a1 len1 cap1, .slice a2 len2 cap2] w fun e w' => e = .returned (.bool true) ∧ Below w.heap.size w w' := by
  by_cases hout : 1048576 < 8 * len0 + len1 + len2
  · exact sep_out a0 len0 cap0 a1 len1 cap1 a2 len2 cap2 w w0.le w1.le w2.le hout
  by_cases c1 : okIx (z0.take len0) len1 = true
  · by_cases c2 : okIx (z0.take len0) len2 = true
    · exact sep_in a0 len0 cap0 z0 a1 len1 cap1 z1 a2 len2 cap2 z2 w w0 w1 w2 (by omega) c1 c2
    · exact sep_bad a0 len0 cap0 z0 a1 len1 cap1 a2 len2 cap2 w w0 (by omega) (.inr (by simpa using c2))
  · exact sep_bad a0 len0 cap0 z0 a1 len1 cap1 a2 len2 cap2 w w0 (by omega) (.inl (by simpa using c1))
end Go.Proofs.Qxb6601597a
