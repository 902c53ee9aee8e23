import Derived.Test.Qxb6601597aIndices
import Derived.Test.Qxb6601597aEnc
import Derived.Laws.BytesArg
import Derived.Laws.BitsAllLaws
import Derived.Deep.CutRange
namespace Go.Proofs.Qxb6601597a
open Go.ChangeShapes Go.WideShapes Go.ChangeAt Go.RowKit

/-- A list of naturals as the numbers that cells hold. -/
def up (l : List Nat) : List Int := l.map fun (n : Nat) => (n : Int)
theorem up_length (l : List Nat) : (up l).length = l.length := by simp [up]
theorem up_getD (l : List Nat) (i : Nat) : (up l).getD i 0 = ((l.getD i 0 : Nat) : Int) := by
  by_cases h : i < l.length
  · simp [up, List.getD, List.getElem?_eq_getElem h]
  · simp [up, List.getD, List.getElem?_eq_none (Nat.le_of_not_lt h)]
theorem up_append (a b : List Nat) : up (a ++ b) = up a ++ up b := by simp [up]

/-- encodedLen -/
theorem encodedLen_any (a : Option Addr) (len cap : Nat) (w : World) (hb : len ≤ 1048576) :
    Calls Try.prog 30 #[.slice a len cap] w fun e w' => e = .returned (.int .i64 (((8 * len + 5) / 6 : Nat) : Int)) ∧ w' = w := by
  go_enter Try.func30, Try.ntmps30
  go_wp2
  go_ret
  have e : ((len : Int) * 8 + 5) / 6 = (((8 * len + 5) / 6 : Nat) : Int) := by omega
  exact ⟨by rw [← e]; rfl, rfl⟩

/-- What encode's walks are told of her two arguments. -/
structure EncArgs (w : World) (aE : Option Addr) (lenE capE : Nat) (aD : Option Addr) (lenD capD : Nat) (ix bl : List Nat) : Prop where
  he : Held .i64 w aE lenE capE (up ix)
  hd : Held .u8 w aD lenD capD (up bl)
  hix : ∀ i, i < lenE → ix.getD i 0 < lenD
  hbl : ∀ i, i < lenD → bl.getD i 0 < 256
  le : lenE ≤ 131072
  ld : lenD ≤ 1048576

theorem heldCells {k : IntKind} {w : World} {a : Option Addr} {len cap : Nat} {l : List Nat} (h : Held k w a len cap (up l)) {i : Nat} (hi : i < len) :
    ∃ g, a = some ⟨g, 0, none⟩ ∧ (∀ j, j < len → w.cell? ⟨g, j, none⟩ = some (.int k ((l.getD j 0 : Nat) : Int))) ∧ g < w.heap.size := by
  rcases h.2 with ⟨_, h0, _⟩ | ⟨g, ha, hg, _, _, hc⟩
  · omega
  · exact ⟨g, ha, fun j hj => by rw [← up_getD]; exact hc j hj, hg⟩
theorem heldLe {k : IntKind} {w : World} {a : Option Addr} {len cap : Nat} {l : List Int} (h : Held k w a len cap l) : len ≤ cap := by
  rcases h.2 with ⟨_, h0, _⟩ | ⟨g, ha, hg, h, _, hc⟩ <;> omega

/-- The listed bytes. -/
def listed (ix bl : List Nat) : List Nat := ix.map fun j => bl.getD j 0

theorem listed_length (ix bl : List Nat) : (listed ix bl).length = ix.length := by simp [listed]
theorem listed_getD (ix bl : List Nat) (i : Nat) (h : i < ix.length) : (listed ix bl).getD i 0 = bl.getD (ix.getD i 0) 0 := by
  simp [listed, List.getD, List.getElem?_eq_getElem h]
theorem take_snoc (l : List Nat) (k : Nat) (h : k < l.length) : l.take (k + 1) = l.take k ++ [l.getD k 0] := by
  rw [List.take_succ_eq_append_getElem h]
  simp [List.getD, List.getElem?_eq_getElem h]
theorem numStep (ix bl : List Nat) (p k : Nat) (h : p + k < ix.length) :
    num (((listed ix bl).drop p).take (k + 1)) = num (((listed ix bl).drop p).take k) * 256 + bl.getD (ix.getD (p + k) 0) 0 := by
  have hk : k < ((listed ix bl).drop p).length := by rw [List.length_drop, listed_length]; omega
  have e : ((listed ix bl).drop p).getD k 0 = bl.getD (ix.getD (p + k) 0) 0 := by
    rw [← listed_getD ix bl (p + k) h]
    simp [List.getD]
  rw [take_snoc _ k hk, num_snoc, e]
theorem listed_lt {ix bl : List Nat} {n : Nat} (h1 : ∀ i, i < ix.length → ix.getD i 0 < n) (h2 : ∀ i, i < n → bl.getD i 0 < 256) : ∀ b ∈ listed ix bl, b < 256 := by
  intro b hb
  simp only [listed, List.mem_map] at hb
  obtain ⟨j, hj, rfl⟩ := hb
  obtain ⟨i, hi, rfl⟩ := List.getElem_of_mem hj
  have := h1 i hi
  simp only [List.getD, List.getElem?_eq_getElem hi, Option.getD_some] at this
  exact h2 _ this

theorem orStep (N b : Nat) (hN : N < 65536) (hb : b < 256) : bits .or .u64 ((N : Int) * 256) (b : Int) = ((N * 256 + b : Nat) : Int) := by
  have e : ((N : Int) * 256) = ((N * 256 : Nat) : Int) := by omega
  rw [e, u64_or_nat _ _ (by omega) (by omega), nat_join 8 _ _ (by omega) (by omega)]
theorem groupStep (l : List Nat) (p k : Nat) (h : p < l.length) (hk : k = min (l.length - p) 3) :
    enc (l.drop p) = chars (k + 1) (num ((l.drop p).take k)) ++ enc (l.drop (p + 3)) := by
  have hne : l.drop p ≠ [] := by
    intro e
    have := congrArg List.length e
    rw [List.length_drop] at this
    simp at this
    omega
  have ht : (l.drop p).take 3 = (l.drop p).take k := by
    rw [hk, ← List.length_drop, Nat.min_comm, ← List.take_eq_take_min]
  rw [enc_step _ hne, List.length_drop, ← hk, ht, List.drop_drop]

theorem andStep (M : Nat) (hM : M < 16777216) : bits .and .u64 (M : Int) 63 = ((M % 64 : Nat) : Int) := by
  have := u64_and_nat M 63 (by omega) (by omega)
  rw [nat_mask6] at this
  exact this
theorem tabAlpha : ∀ v : Fin 64, ((⟨#[46, 47, 48, 49, 50, 51, 52, 53, 54, 55, 56, 57, 65, 66, 67, 68, 69, 70, 71, 72, 73, 74, 75, 76, 77, 78, 79, 80, 81, 82, 83, 84, 85, 86, 87, 88, 89, 90, 97, 98, 99, 100, 101, 102, 103, 104, 105, 106, 107, 108, 109, 110, 111, 112, 113, 114, 115, 116, 117, 118, 119, 120, 121, 122]⟩ : ByteArray)[v.1]'(by have := v.2; exact this)).toNat = alpha v.1 := by decide +kernel
theorem indexAlpha (v : Nat) (hv : v < 64) (w : World) : (Instr.index 9 (.string ⟨#[46, 47, 48, 49, 50, 51, 52, 53, 54, 55, 56, 57, 65, 66, 67, 68, 69, 70, 71, 72, 73, 74, 75, 76, 77, 78, 79, 80, 81, 82, 83, 84, 85, 86, 87, 88, 89, 90, 97, 98, 99, 100, 101, 102, 103, 104, 105, 106, 107, 108, 109, 110, 111, 112, 113, 114, 115, 116, 117, 118, 119, 120, 121, 122]⟩) (.int .u64 (v : Int))).run Try.prog w = .ok (.int .u8 ((alpha v : Nat) : Int)) w := by
  rw [run_index_string _ _ _ _ _ Try.underlying9, dif_pos ⟨by omega, by show (v : Int) < (64 : Int); omega⟩]
  have := tabAlpha ⟨v, hv⟩
  simp only [Int.toNat_natCast]
  rw [← this]

set_option maxHeartbeats 2000000 in
theorem encode_core (aE : Option Addr) (lenE capE : Nat) (aD : Option Addr) (lenD capD : Nat) (ix bl : List Nat) (w : World) (H : EncArgs w aE lenE capE aD lenD capD ix bl) :
    Calls Try.prog 28 #[.slice aE lenE capE, .slice aD lenD capD] w fun e w' => e = .returned (.string (strOfNums (up (enc (listed ix bl))))) ∧ Below w.heap.size w w' := by
  obtain ⟨i0, hi, hz0, hz1, hz2⟩ := info_parts info5
  have hle := H.le
  have hld := H.ld
  have hil : ix.length = lenE := (up_length ix).symm.trans H.he.1
  have hdl : bl.length = lenD := (up_length bl).symm.trans H.hd.1
  have hbs : (listed ix bl).length = lenE := by simp [listed, hil]
  have HBS : Hid ((listed ix bl).length = lenE) := hbs
  have HBY : Hid (∀ b ∈ listed ix bl, b < 256) := listed_lt (n := lenD) (fun i hi => H.hix i (by omega)) H.hbl
  have HIL : Hid (ix.length = lenE) := hil
  clear hil hdl hbs
  generalize hcap : (8 * lenE + 5) / 6 = cp
  have HCP : Hid ((8 * lenE + 5) / 6 = cp) := hcap
  have hcp1 : cp ≤ 200000 := by omega
  go_enter Try.func28, Try.ntmps28
  go_wp2_with fail
  refine (encodedLen_any aE lenE capE w (by omega)).mono ?_
  rintro e w' ⟨rfl, hw⟩
  rw [hcap]
  subst hw
  clear hcap
  go_wp2_with (at_make; refine wpList_make_own _ rfl _ _ 23 rfl w'.heap.size 5 i0 (.int .u8 0) 1 Try.underlying23 hi hz0 hz1 _ _ _ cp rfl rfl rfl ?b2 ?b3 (Nat.le_refl _) ?_)
  case b2 => rw [hz2]; omega
  case b3 => unfold maxLen; omega
  intro w0 hown0 hgrow0
  go_wp2
  go_loopw [5, 6] (fun out si wr => ∃ (p m : Nat) (xs : List Nat), p ≤ lenE + 2 ∧ si = .int .i64 p ∧ out = .slice (some ⟨w'.heap.size, 0, none⟩) m cp ∧ Hid (xs.length = m) ∧
      wr.ownsRow w'.heap.size 5 1 (.slice (some ⟨w'.heap.size, 0, none⟩) m cp) m ((up xs).map (Value.int .u8)) ∧ Hid (xs ++ enc ((listed ix bl).drop p) = enc (listed ix bl)) ∧ Below w'.heap.size w' wr)
    (fun _ si _ => lenE + 2 - (intOf si).toNat)
  case atStart => exact ⟨0, 0, [], by omega, rfl, rfl, rfl, hown0, rfl, (Below.refl _ _).grown hgrow0 (Nat.le_refl _) (fun k h => by cases h)⟩
  case round =>
    obtain ⟨p, m, xs, hp, rfl, rfl, HM, hown, HX, hbel⟩ := hrel
    by_cases hlt : p < lenE
    · obtain ⟨gE, rfl, cE, bE⟩ := heldCells H.he hlt
      obtain ⟨gD, rfl, cD, bD⟩ := heldCells H.hd (H.hix p hlt)
      have lE : lenE ≤ capE := heldLe H.he
      go_upto_region 5 with fail
      go_cut [7] from 14 to 56 (fun grp wc => ∃ g c : Nat, grp = .slice (some ⟨gE, p, none⟩) g c ∧ p + g ≤ lenE ∧ 1 ≤ g ∧ g ≤ 3 ∧ Hid (g = min (lenE - p) 3) ∧ wc = wr)
      case first =>
        by_cases h3 : p + 3 ≤ lenE
        · go_wp2
          go_meet
          case rel => exact ⟨3, capE - p, by simp, by omega, by omega, by omega, by show 3 = min (lenE - p) 3; omega, rfl⟩
        · have h3' : (lenE : Int) < (p : Int) + 3 := by omega
          go_wp2
          go_meet
          case rel => exact ⟨lenE - p, capE - p, by simp, by omega, by omega, by omega, by show lenE - p = min (lenE - p) 3; omega, rfl⟩
      case rest =>
        obtain ⟨g, c, rfl, hg1, hg2, hg3, HG, rfl⟩ := hcut
        replace cE : ∀ j, j < lenE → wc.cell? ⟨gE, j, none⟩ = some (.int .i64 ((ix.getD j 0 : Nat) : Int)) := fun j hj => (hbel.cell (p := ⟨gE, j, none⟩) bE).trans (cE j hj)
        replace cD : ∀ j, j < lenD → wc.cell? ⟨gD, j, none⟩ = some (.int .u8 ((bl.getD j 0 : Nat) : Int)) := fun j hj => (hbel.cell (p := ⟨gD, j, none⟩) bD).trans (cD j hj)
        have CE : Hid (∀ j, j < lenE → wc.cell? ⟨gE, j, none⟩ = some (.int .i64 ((ix.getD j 0 : Nat) : Int))) := cE
        have CD : Hid (∀ j, j < lenD → wc.cell? ⟨gD, j, none⟩ = some (.int .u8 ((bl.getD j 0 : Nat) : Int))) := cD
        clear cE cD
        go_wp2_with fail
        go_loop [8, 30] (fun sn st => ∃ k : Nat, k ≤ g ∧ st = .int .i64 k ∧ sn = .int .u64 (num (((listed ix bl).drop p).take k) : Nat)) (fun _ st => g - (intOf st).toNat)
        case atStart => exact ⟨0, Nat.zero_le _, rfl, rfl⟩
        case round =>
          obtain ⟨k, hk, rfl, rfl⟩ := hrel
          by_cases hkg : k < g
          · have hpk : p + k < lenE := by omega
            have c1 := CE.out (p + k) hpk
            have h1 := H.hix (p + k) hpk
            have c2 := CD.out (ix.getD (p + k) 0) h1
            have h2 := H.hbl _ h1
            have HN : Hid (num (((listed ix bl).drop p).take (k + 1)) = num (((listed ix bl).drop p).take k) * 256 + bl.getD (ix.getD (p + k) 0) 0) := numStep ix bl p k (by have := HIL.out; omega)
            have hN : num (((listed ix bl).drop p).take k) < 65536 := num_lt2 _ (fun b hb => HBY.out b (List.mem_of_mem_drop (List.mem_of_mem_take hb))) (by rw [List.length_take]; omega)
            generalize num (((listed ix bl).drop p).take k) = N at HN hN
            generalize bl.getD (ix.getD (p + k) 0) 0 = b at c2 h2 HN
            generalize ix.getD (p + k) 0 = j at c1 c2 h1
            go_wp2
            go_round
            case rel => exact ⟨k + 1, by omega, by go_num, by rw [HN.out, orStep N b hN h2]⟩
            case measure => simp [intOf]; omega
          · obtain rfl : k = g := by omega
            have HN : Hid (num (((listed ix bl).drop p).take k) < 16777216) := num_lt3 _ (fun b hb => HBY.out b (List.mem_of_mem_drop (List.mem_of_mem_take hb))) (by rw [List.length_take]; omega)
            have HS : Hid (enc ((listed ix bl).drop p) = chars (k + 1) (num (((listed ix bl).drop p).take k)) ++ enc ((listed ix bl).drop (p + 3))) := groupStep _ p k (by have := HBS.out; omega) (by have := HBS.out; have := HG.out; omega)
            generalize num (((listed ix bl).drop p).take k) = N at HN HS
            go_wp2_with fail
            go_loopw [5, 8, 46] (fun out sn st wr => ∃ t : Nat, t ≤ k + 1 ∧ st = .int .i64 t ∧ sn = .int .u64 ((N / 64 ^ t : Nat) : Int) ∧ out = .slice (some ⟨w'.heap.size, 0, none⟩) (m + t) cp ∧
                wr.ownsRow w'.heap.size 5 1 (.slice (some ⟨w'.heap.size, 0, none⟩) (m + t) cp) (m + t) ((up (xs ++ chars t N)).map (Value.int .u8)) ∧ Below w'.heap.size w' wr)
              (fun _ _ st _ => k + 1 - (intOf st).toNat)
            case atStart => exact ⟨0, Nat.zero_le _, rfl, by simp, rfl, by simpa [chars_zero] using hown, hbel⟩
            case round =>
              obtain ⟨t, ht, rfl, rfl, rfl, hownt, hbelt⟩ := hrel
              by_cases htg : t < k + 1
              · have HC : Hid (chars (t + 1) N = chars t N ++ [alpha (N / 64 ^ t % 64)]) := chars_succ t N
                have HD : Hid (N / 64 ^ (t + 1) = N / 64 ^ t / 64) := by show _ = _; rw [Nat.pow_succ, Nat.div_div_eq_div_mul]
                have hM : N / 64 ^ t < 16777216 := Nat.lt_of_le_of_lt (Nat.div_le_self _ _) HN.out
                have hfit : m + t + 1 ≤ cp := by
                  have h1 := congrArg List.length HX.out
                  rw [HS.out, List.length_append, List.length_append, chars_length, enc_length (listed ix bl), HBS.out, HM.out] at h1
                  have := HCP.out
                  omega
                generalize N / 64 ^ t = M at HC HD hM
                have hand := andStep M hM
                have hv : M % 64 < 64 := Nat.mod_lt _ (by omega)
                generalize M % 64 = v at HC hand hv
                have hix := indexAlpha v hv
                generalize alpha v = al at HC hix
                go_wp2_with (at_builtin; refine wpList_append_fits _ rfl (.tmp 48) (.tmp 52) 23 rfl w'.heap.size 5 i0 1 Try.underlying23 hi hz1 w'.heap.size (m + t) cp _ rfl (hownt.alloc _) ⟨wr.heap.size, 0, none⟩ 1 1 [.int .u8 (al : Int)] rfl rfl (cell_one_new _ _ _) (by intro u hu; simp at hu; subst hu; rfl) (by omega) ?_; intro w1 hown1 hgrow1)
                go_roundw
                case rel =>
                  refine ⟨t + 1, by omega, by go_num, by rw [HD.out]; go_num, rfl, ?_, (hbelt.alloc hbelt.size _).grown hgrow1 (by simp; have := hbelt.size; omega) (fun k hk => by cases hk; exact Nat.le_refl _)⟩
                  rw [HC.out, ← List.append_assoc, up_append, List.map_append]
                  exact hown1
                case measure => simp [intOf]; omega
              · obtain rfl : t = k + 1 := by omega
                go_wp2_with fail
                go_roundw
                case rel => exact ⟨p + 3, m + (k + 1), xs ++ chars (k + 1) N, by omega, by go_num, rfl, by show _ = _; rw [List.length_append, chars_length, HM.out], hownt, by show _ = _; rw [List.append_assoc, ← HS.out]; exact HX.out, hbelt⟩
                case measure => simp [intOf]; omega
    · have HE : Hid (xs = enc (listed ix bl)) := by
        have h1 := HX.out
        rw [List.drop_eq_nil_of_le (by have := HBS.out; omega)] at h1
        show xs = _
        simpa [enc] using h1
      have hcv := run_convert_bytes_arg wr 23 5 Try.underlying23 Try.underlying5 w'.heap.size 0 m cp (up xs) (by rw [up_length]; exact HM.out)
        (by intro i hi; have := (held_of_owns (l := up xs) (by rw [up_length]; exact HM.out) hown).2; rcases this with ⟨h, _⟩ | ⟨g, h, _, _, _, hc⟩; · cases h
            · cases h; simpa using hc i hi) 9 Try.underlying9
      go_wp2
      go_ret
      exact ⟨congrArg (fun z => Ending.returned (.string (strOfNums (up z)))) HE.out, hbel⟩

theorem encode_any (aE : Option Addr) (lenE capE : Nat) (aD : Option Addr) (lenD capD : Nat) (ix bl : List Nat) (w : World) (H : EncArgs w aE lenE capE aD lenD capD ix bl) :
    Calls Try.prog 15 #[.slice aE lenE capE, .slice aD lenD capD] w fun e w' => e = .returned (.string (strOfNums (up (enc (listed ix bl))))) ∧ Below w.heap.size w w' := by
  go_enter Try.func15, Try.ntmps15
  go_wp2_with fail
  refine (encode_core aE lenE capE aD lenD capD ix bl w H).mono ?_
  rintro e w' ⟨rfl, hbel⟩
  clear H
  go_wp2
  go_ret
  exact ⟨rfl, hbel⟩
end Go.Proofs.Qxb6601597a
