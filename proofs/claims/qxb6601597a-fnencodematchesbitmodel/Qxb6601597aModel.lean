import Derived.Test.Qxb6601597aEncWalk
import Derived.Test.Qxb6601597aEncBits
namespace Go.Proofs.Qxb6601597a
open Go.ChangeShapes Go.WideShapes Go.ChangeAt Go.RowKit

/-! ### alphaChar: the closed form of the alphabet -/
theorem alpha_closed : ∀ v : Fin 64, alpha v.1 = if v.1 < 2 then 46 + v.1 else if v.1 < 12 then 46 + v.1 else if v.1 < 38 then 53 + v.1 else 59 + v.1 := by decide +kernel

theorem ret_u8 {a b : Int} (h : a = b) : Ending.returned (.int .u8 a) = .returned (.int .u8 b) := by rw [h]

theorem alphaChar_any (v : Nat) (hv : v < 64) (w : World) : Calls Try.prog 29 #[.int .i64 v] w fun e w' => e = .returned (.int .u8 ((alpha v : Nat) : Int)) ∧ w' = w := by
  have h := alpha_closed ⟨v, hv⟩
  simp only at h
  have H : Hid (alpha v = if v < 2 then 46 + v else if v < 12 then 46 + v else if v < 38 then 53 + v else 59 + v) := h
  clear h
  by_cases c1 : v < 2
  · have HE : Hid (alpha v = 46 + v) := by have := H.out; rw [if_pos c1] at this; exact this
    clear H
    go_enter Try.func29, Try.ntmps29
    go_wp2
    go_ret
    refine ⟨ret_u8 ?_, rfl⟩
    rw [HE.out]; simp; try omega
  by_cases c2 : v < 12
  · have HE : Hid (alpha v = 46 + v) := by have := H.out; rw [if_neg c1, if_pos c2] at this; exact this
    clear H
    go_enter Try.func29, Try.ntmps29
    go_wp2
    go_ret
    refine ⟨ret_u8 ?_, rfl⟩
    rw [HE.out]; simp; try omega
  by_cases c3 : v < 38
  · have HE : Hid (alpha v = 53 + v) := by have := H.out; rw [if_neg c1, if_neg c2, if_pos c3] at this; exact this
    clear H
    go_enter Try.func29, Try.ntmps29
    go_wp2
    go_ret
    refine ⟨ret_u8 ?_, rfl⟩
    rw [HE.out]; simp; try omega
  · have HE : Hid (alpha v = 59 + v) := by have := H.out; rw [if_neg c1, if_neg c2, if_neg c3] at this; exact this
    clear H
    go_enter Try.func29, Try.ntmps29
    go_wp2
    go_ret
    refine ⟨ret_u8 ?_, rfl⟩
    rw [HE.out]; simp; try omega

/-! ### The bits, as the walk spells them -/
theorem bitAnd (x S : Nat) (hx : x < 256) : bits .and .u8 ((x : Int) / 2 ^ S) 1 = ((x / 2 ^ S % 2 : Nat) : Int) := by
  have e : ((x : Int) / 2 ^ S) = ((x / 2 ^ S : Nat) : Int) := by simp
  have h := u8_and_nat (x / 2 ^ S) 1 (Nat.lt_of_le_of_lt (Nat.div_le_self _ _) hx) (by omega)
  rw [nat_mask1] at h
  rw [e]
  exact h
theorem wrap_i64_few (n : Nat) (h : n < 9223372036854775808) : IntKind.i64.wrap (n : Int) = (n : Int) := by
  have e : (n : Int) % 2 ^ 64 = n := Int.emod_eq_of_lt (by omega) (by omega)
  simp only [IntKind.wrap, IntKind.bits, IntKind.signed, e]
  rw [if_neg]
  simp
  omega
theorem bitOr (V b : Nat) (hV : V < 2 ^ b) (hb : b < 6) : bits .or .i64 (V : Int) (wrap64 (2 ^ b)) = ((V + 2 ^ b : Nat) : Int) := by
  have h2 : 2 ^ b < 64 := Nat.pow_lt_pow_right (by omega) hb
  have e : wrap64 (2 ^ b) = ((2 ^ b : Nat) : Int) := by
    have e1 : ((2 : Int) ^ b) = ((2 ^ b : Nat) : Int) := by simp
    rw [e1]
    unfold wrap64
    omega
  rw [e]
  show IntKind.i64.wrap ((BitVec.ofInt 64 (V : Int) ||| BitVec.ofInt 64 ((2 ^ b : Nat) : Int)).toNat : Int) = _
  rw [BitVec.toNat_or, ofInt_u64 V (by omega), ofInt_u64 (2 ^ b) (by omega), Nat.or_comm, nat_join b (2 ^ b) V (Nat.mod_self _) hV, Nat.add_comm]
  exact wrap_i64_few _ (by omega)

set_option maxHeartbeats 4000000 in
theorem model_any (aE : Option Addr) (lenE capE : Nat) (aD : Option Addr) (lenD capD : Nat) (ix bl : List Nat) (w : World) (H : EncArgs w aE lenE capE aD lenD capD ix bl) :
    Calls Try.prog 16 #[.slice aE lenE capE, .slice aD lenD capD] w fun e w' => ∃ cp, e = .returned (.slice (some ⟨w.heap.size, 0, none⟩) (enc (listed ix bl)).length cp) ∧
      Held .u8 w' (some ⟨w.heap.size, 0, none⟩) (enc (listed ix bl)).length cp (up (enc (listed ix bl))) ∧ Below w.heap.size w w' := by
  obtain ⟨i0, hi, hz0, hz1, hz2⟩ := info_parts info5
  have hle := H.le
  have hld := H.ld
  have hil : ix.length = lenE := (up_length ix).symm.trans H.he.1
  have HBS : Hid ((listed ix bl).length = lenE) := by show _ = _; simp [listed, hil]
  have HBY : Hid (∀ b ∈ listed ix bl, b < 256) := listed_lt (n := lenD) (fun i hi => H.hix i (by omega)) H.hbl
  have HIL : Hid (ix.length = lenE) := hil
  clear hil
  obtain ⟨cp, hcp⟩ : ∃ cp : Nat, cp = 2 * lenE + 2 := ⟨_, rfl⟩
  have HCP : Hid (cp = 2 * lenE + 2) := hcp
  have hcpI : 2 * (lenE : Int) + 2 = (cp : Int) := by omega
  have hcp1 : cp ≤ 300000 := by omega
  clear hcp
  go_enter Try.func16, Try.ntmps16
  go_wp2_with (at_make; refine wpList_make_own _ rfl _ _ 23 rfl w.heap.size 5 i0 (.int .u8 0) 1 Try.underlying23 hi hz0 hz1 _ _ _ cp rfl rfl rfl ?b2 ?b3 (Nat.le_refl _) ?_)
  case b2 => rw [hz2]; omega
  case b3 => unfold maxLen; omega
  intro w0 hown0 hgrow0
  clear hcpI
  go_wp2
  go_loopw [5, 6] (fun out si wr => ∃ (p m : Nat) (xs : List Nat), p ≤ lenE + 2 ∧ si = .int .i64 p ∧ out = .slice (some ⟨w.heap.size, 0, none⟩) m cp ∧ Hid (xs.length = m) ∧
      wr.ownsRow w.heap.size 5 1 (.slice (some ⟨w.heap.size, 0, none⟩) m cp) m ((up xs).map (Value.int .u8)) ∧ Hid (xs ++ enc ((listed ix bl).drop p) = enc (listed ix bl)) ∧ Below w.heap.size w wr)
    (fun _ si _ => lenE + 2 - (intOf si).toNat)
  case atStart => exact ⟨0, 0, [], by omega, rfl, rfl, rfl, hown0, rfl, (Below.refl _ _).grown hgrow0 (Nat.le_refl _) (fun k h => by cases h)⟩
  case round =>
    obtain ⟨p, m, xs, hp, rfl, rfl, HM, hown, HX, hbel⟩ := hrel
    by_cases hlt : p < lenE
    · obtain ⟨gE, rfl, cE, bE⟩ := heldCells H.he hlt
      obtain ⟨gD, rfl, cD, bD⟩ := heldCells H.hd (H.hix p hlt)
      go_upto_if 30 with fail
      go_cut [7] from 19 to 77 (fun sg wc => ∃ g : Nat, sg = .int .i64 g ∧ p + g ≤ lenE ∧ 1 ≤ g ∧ g ≤ 3 ∧ Hid (g = min (lenE - p) 3) ∧ wc = wr)
      case first =>
        by_cases h3 : 3 < lenE - p
        · go_wp2
          go_meet
          case rel => exact ⟨3, rfl, by omega, by omega, by omega, by show 3 = min (lenE - p) 3; omega, rfl⟩
        · go_wp2
          go_meet
          case rel => exact ⟨lenE - p, by go_num, by omega, by omega, by omega, by show lenE - p = min (lenE - p) 3; omega, rfl⟩
      case rest =>
        obtain ⟨g, rfl, hg1, hg2, hg3, HG, rfl⟩ := hcut
        have HN : Hid (∀ b ∈ ((listed ix bl).drop p).take g, b < 256) := fun b hb => HBY.out b (List.mem_of_mem_drop (List.mem_of_mem_take hb))
        have HGL : Hid ((((listed ix bl).drop p).take g).length = g) := by show _ = _; rw [List.length_take, List.length_drop, HBS.out]; omega
        have HGS : Hid (∀ i, i < g → (((listed ix bl).drop p).take g).getD i 0 = bl.getD (ix.getD (p + i) 0) 0) := by
          intro i hi
          rw [← listed_getD ix bl (p + i) (by have := HIL.out; omega)]
          simp [List.getD, hi]
        have HS : Hid (enc ((listed ix bl).drop p) = chars (g + 1) (num (((listed ix bl).drop p).take g)) ++ enc ((listed ix bl).drop (p + 3))) := groupStep _ p g (by have := HBS.out; omega) (by have := HBS.out; have := HG.out; omega)
        generalize ((listed ix bl).drop p).take g = gs at HN HGL HGS HS
        go_wp2_with fail
        go_loopw [5, 8] (fun out sc wr => ∃ c : Nat, c ≤ g + 1 ∧ sc = .int .i64 c ∧ out = .slice (some ⟨w.heap.size, 0, none⟩) (m + c) cp ∧
            wr.ownsRow w.heap.size 5 1 (.slice (some ⟨w.heap.size, 0, none⟩) (m + c) cp) (m + c) ((up (xs ++ chars c (num gs))).map (Value.int .u8)) ∧ Below w.heap.size w wr)
          (fun _ sc _ => g + 1 - (intOf sc).toNat)
        case atStart => exact ⟨0, Nat.zero_le _, rfl, rfl, by simpa [chars_zero] using hown, hbel⟩
        case round =>
          obtain ⟨c, hc, rfl, rfl, hownc, hbelc⟩ := hrel
          have CE : Hid (∀ j, j < lenE → wr.cell? ⟨gE, j, none⟩ = some (.int .i64 ((ix.getD j 0 : Nat) : Int))) := fun j hj => (hbelc.cell (p := ⟨gE, j, none⟩) bE).trans (cE j hj)
          have CD : Hid (∀ j, j < lenD → wr.cell? ⟨gD, j, none⟩ = some (.int .u8 ((bl.getD j 0 : Nat) : Int))) := fun j hj => (hbelc.cell (p := ⟨gD, j, none⟩) bD).trans (cD j hj)
          by_cases hcg : c ≤ g
          · go_wp2_with fail
            go_loop [9, 10] (fun sv sb => ∃ b : Nat, b ≤ 6 ∧ sb = .int .i64 b ∧ sv = .int .i64 ((num gs / 64 ^ c % 2 ^ b : Nat) : Int)) (fun _ sb => 6 - (intOf sb).toNat)
            case atStart => exact ⟨0, by omega, rfl, by rw [Nat.pow_zero, Nat.mod_one]; rfl⟩
            case round =>
              obtain ⟨b, hb, rfl, rfl⟩ := hrel
              by_cases hb6 : b < 6
              · have HST : Hid (num gs / 64 ^ c % 2 ^ (b + 1) = num gs / 64 ^ c % 2 ^ b + 2 ^ b * (num gs / 2 ^ (6 * c + b) % 2)) := mod_step _ _ _
                have hVb : num gs / 64 ^ c % 2 ^ b < 2 ^ b := Nat.mod_lt _ (Nat.two_pow_pos b)
                obtain ⟨K, hK⟩ : ∃ K : Nat, K = 6 * c + b := ⟨_, rfl⟩
                rw [← hK] at HST
                have hK24 : K < 24 := by omega
                have hKI : 6 * (c : Int) + (b : Int) = (K : Int) := by omega
                have HK : Hid (K = 6 * c + b) := hK
                clear hK
                by_cases hpos : K / 8 < g
                · have hbit := num_bit gs HN.out (by rw [HGL.out]; exact hg3) K (by rw [HGL.out]; exact hpos)
                  rw [HGL.out, HGS.out (g - 1 - K / 8) (by omega)] at hbit
                  have hJ : p + (g - 1 - K / 8) < lenE := by omega
                  have c1 := CE.out _ hJ
                  have c2 := CD.out _ (H.hix _ hJ)
                  have c3 := H.hix _ hJ
                  have c4 := H.hbl _ c3
                  generalize bl.getD (ix.getD (p + (g - 1 - K / 8)) 0) 0 = x at hbit c2 c4
                  generalize ix.getD (p + (g - 1 - K / 8)) 0 = j at c1 c2 c3
                  generalize num gs / 64 ^ c % 2 ^ b = V at HST hVb
                  have hPI : (K : Int) / 8 = ((K / 8 : Nat) : Int) := by omega
                  have hSI : (K : Int) % 8 = ((K % 8 : Nat) : Int) := by omega
                  have hS8 : K % 8 < 8 := by omega
                  rw [hbit] at HST
                  generalize K % 8 = S at hSI hS8 HST
                  have hJI : (p : Int) + (g : Int) - 1 - ((K / 8 : Nat) : Int) = ((p + (g - 1 - K / 8) : Nat) : Int) := by omega
                  generalize p + (g - 1 - K / 8) = J at hJ c1 hJI
                  generalize K / 8 = P at hPI hJI hpos
                  clear hbit
                  have HO : Hid (bits .or .i64 (V : Int) (wrap64 (2 ^ b)) = ((V + 2 ^ b : Nat) : Int)) := bitOr V b hVb hb6
                  have hand := bitAnd x S c4
                  have hb2 : x / 2 ^ S % 2 < 2 := Nat.mod_lt _ (by omega)
                  generalize x / 2 ^ S % 2 = d at hand hb2 HST
                  clear hVb
                  by_cases hd : d < 1
                  · obtain rfl : d = 0 := by omega
                    have HE : Hid (num gs / 64 ^ c % 2 ^ (b + 1) = V) := by show _ = _; rw [HST.out, Nat.mul_zero, Nat.add_zero]
                    clear HST
                    have hand' : (bits BinOp.and IntKind.u8 ((x : Int) / 2 ^ S) 1 == 1) = false := by rw [hand]; rfl
                    clear hand
                    go_wp2
                    go_round
                    case rel => exact ⟨b + 1, by omega, by go_num, by rw [HE.out]⟩
                    case measure => simp [intOf]; omega
                  · obtain rfl : d = 1 := by omega
                    have HE : Hid (num gs / 64 ^ c % 2 ^ (b + 1) = V + 2 ^ b) := by show _ = _; rw [HST.out, Nat.mul_one]
                    clear HST
                    have hand' : (bits BinOp.and IntKind.u8 ((x : Int) / 2 ^ S) 1 == 1) = true := by rw [hand]; rfl
                    clear hand
                    go_wp2
                    go_round
                    case rel => exact ⟨b + 1, by omega, by go_num, by rw [HE.out, HO.out]⟩
                    case measure => simp [intOf]; omega
                · have hbit := num_high gs HN.out K (by rw [HGL.out]; omega)
                  have HE : Hid (num gs / 64 ^ c % 2 ^ (b + 1) = num gs / 64 ^ c % 2 ^ b) := by show _ = _; rw [HST.out, hbit, Nat.mul_zero, Nat.add_zero]
                  clear HST hbit
                  generalize num gs / 64 ^ c % 2 ^ b = V at HE hVb
                  have hPI : (K : Int) / 8 = ((K / 8 : Nat) : Int) := by omega
                  generalize K / 8 = P at hPI hpos
                  go_wp2
                  go_round
                  case rel => exact ⟨b + 1, by omega, by go_num, by rw [HE.out]⟩
                  case measure => simp [intOf]; omega
              · obtain rfl : b = 6 := by omega
                have HC : Hid (chars (c + 1) (num gs) = chars c (num gs) ++ [alpha (num gs / 64 ^ c % 64)]) := chars_succ c (num gs)
                have hv : num gs / 64 ^ c % 2 ^ 6 < 64 := Nat.mod_lt _ (by omega)
                have hfit : m + c + 1 ≤ cp := by
                  have h1 := congrArg List.length HX.out
                  rw [HS.out, List.length_append, List.length_append, chars_length, enc_length (listed ix bl), HBS.out, HM.out] at h1
                  have := HCP.out
                  omega
                have HC' : Hid (chars (c + 1) (num gs) = chars c (num gs) ++ [alpha (num gs / 64 ^ c % 2 ^ 6)]) := HC.out
                clear HC
                generalize num gs / 64 ^ c % 2 ^ 6 = v at HC' hv
                go_wp2_with fail
                refine (alphaChar_any v hv _).mono ?_
                rintro e wz ⟨rfl, rfl⟩
                generalize alpha v = al at HC'
                go_wp2_with (at_builtin; refine wpList_append_fits _ rfl (.tmp 73) (.tmp 76) 23 rfl w.heap.size 5 i0 1 Try.underlying23 hi hz1 w.heap.size (m + c) cp _ rfl (hownc.alloc _) ⟨_, 0, none⟩ 1 1 [.int .u8 (al : Int)] rfl rfl (cell_one_new _ _ _) (by intro u hu; simp at hu; subst hu; rfl) (by omega) ?_; intro w1 hown1 hgrow1)
                go_roundw
                case rel =>
                  refine ⟨c + 1, by omega, by go_num, rfl, ?_, (hbelc.alloc hbelc.size _).grown hgrow1 (by simp; have := hbelc.size; omega) (fun k hk => by cases hk; exact Nat.le_refl _)⟩
                  rw [HC'.out, ← List.append_assoc, up_append, List.map_append]
                  exact hown1
                case measure => simp [intOf]; omega
          · obtain rfl : c = g + 1 := by omega
            go_wp2_with fail
            go_roundw
            case rel => exact ⟨p + 3, m + (g + 1), xs ++ chars (g + 1) (num gs), by omega, by go_num, rfl, by show _ = _; rw [List.length_append, chars_length, HM.out], hownc, by show _ = _; rw [List.append_assoc, ← HS.out]; exact HX.out, hbelc⟩
            case measure => simp [intOf]; omega
    · have HE : Hid (xs = enc (listed ix bl)) := by
        have h1 := HX.out
        rw [List.drop_eq_nil_of_le (by have := HBS.out; omega)] at h1
        show xs = _
        simpa [enc] using h1
      have HF := held_of_owns (l := up xs) (by rw [up_length]; exact HM.out) hown
      clear hown
      go_wp2
      go_ret
      have e1 := HE.out
      have e2 := HM.out
      subst e1
      subst e2
      exact ⟨cp, rfl, HF, hbel⟩
end Go.Proofs.Qxb6601597a
