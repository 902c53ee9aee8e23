/-
  THE PLAIN SIDE OF encode: no Go in sight. Numbers are Nat.
-/
namespace Go.Proofs.Qxb6601597a

/-- A group of bytes as one number, the most significant byte first. -/
def num (l : List Nat) : Nat := l.foldl (fun n b => n * 256 + b) 0
def alphaTab : List Nat := [46, 47, 48, 49, 50, 51, 52, 53, 54, 55, 56, 57, 65, 66, 67, 68, 69, 70, 71, 72, 73, 74, 75, 76, 77, 78, 79, 80, 81, 82, 83, 84, 85, 86, 87, 88, 89, 90, 97, 98, 99, 100, 101, 102, 103, 104, 105, 106, 107, 108, 109, 110, 111, 112, 113, 114, 115, 116, 117, 118, 119, 120, 121, 122]
def alpha (v : Nat) : Nat := alphaTab.getD v 0
/-- t characters of N, six bits each, the least significant first. -/
def chars (t N : Nat) : List Nat := (List.range t).map fun i => alpha (N / 64 ^ i % 64)
def enc : List Nat → List Nat
  | [] => []
  | [a] => chars 2 (num [a])
  | [a, b] => chars 3 (num [a, b])
  | a :: b :: c :: r => chars 4 (num [a, b, c]) ++ enc r

theorem num_nil : num [] = 0 := rfl
theorem num_snoc (l : List Nat) (b : Nat) : num (l ++ [b]) = num l * 256 + b := by simp [num]
theorem num_lt_aux (l : List Nat) (h : ∀ b ∈ l, b < 256) (n : Nat) : l.foldl (fun n b => n * 256 + b) n < (n + 1) * 256 ^ l.length := by
  induction l generalizing n with
  | nil => simp
  | cons b r ih =>
    have hb := h b (List.mem_cons_self ..)
    have := ih (fun x hx => h x (List.mem_cons_of_mem _ hx)) (n * 256 + b)
    have h2 : (n * 256 + b + 1) * 256 ^ r.length ≤ ((n + 1) * 256) * 256 ^ r.length := Nat.mul_le_mul_right _ (by omega)
    have e : 256 ^ (b :: r).length = 256 * 256 ^ r.length := by rw [List.length_cons, Nat.pow_succ, Nat.mul_comm]
    rw [List.foldl_cons, e, ← Nat.mul_assoc]
    omega
theorem num_lt (l : List Nat) (h : ∀ b ∈ l, b < 256) : num l < 256 ^ l.length := by
  have := num_lt_aux l h 0
  simpa [num] using this
theorem num_lt3 (l : List Nat) (h : ∀ b ∈ l, b < 256) (hl : l.length ≤ 3) : num l < 16777216 := by
  have h1 := num_lt l h
  have h2 : 256 ^ l.length ≤ 256 ^ 3 := Nat.pow_le_pow_right (by omega) hl
  omega
theorem num_lt2 (l : List Nat) (h : ∀ b ∈ l, b < 256) (hl : l.length ≤ 2) : num l < 65536 := by
  have h1 := num_lt l h
  have h2 : 256 ^ l.length ≤ 256 ^ 2 := Nat.pow_le_pow_right (by omega) hl
  omega

theorem alpha_inj : ∀ a : Fin 64, ∀ b : Fin 64, alpha a.1 = alpha b.1 → a = b := by decide +kernel
theorem alpha_byte : ∀ a : Fin 64, alpha a.1 < 256 := by decide +kernel
theorem alpha_lt (v : Nat) (h : v < 64) : alpha v < 256 := alpha_byte ⟨v, h⟩

theorem chars_zero (N : Nat) : chars 0 N = [] := rfl
theorem chars_succ (t N : Nat) : chars (t + 1) N = chars t N ++ [alpha (N / 64 ^ t % 64)] := by simp [chars, List.range_succ]
theorem chars_length (t N : Nat) : (chars t N).length = t := by simp [chars]
theorem chars_lt (t N : Nat) : ∀ c ∈ chars t N, c < 256 := by
  intro c hc
  simp only [chars, List.mem_map] at hc
  obtain ⟨i, _, rfl⟩ := hc
  exact alpha_lt _ (Nat.mod_lt _ (by omega))

theorem enc_step (l : List Nat) (h : l ≠ []) : enc l = chars (min l.length 3 + 1) (num (l.take 3)) ++ enc (l.drop 3) := by
  match l, h with
  | [a], _ => simp [enc]
  | [a, b], _ => simp [enc]
  | a :: b :: c :: r, _ =>
    have e : min (a :: b :: c :: r).length 3 + 1 = 4 := by simp only [List.length_cons]; omega
    rw [e]
    simp [enc]

theorem enc_length_aux : ∀ (n : Nat) (l : List Nat), l.length ≤ n → (enc l).length = (8 * l.length + 5) / 6 := by
  intro n
  induction n with
  | zero =>
    intro l hl
    have : l = [] := List.eq_nil_of_length_eq_zero (by omega)
    subst this
    rfl
  | succ n ih =>
    intro l hl
    by_cases h : l = []
    · subst h; rfl
    · have hp : 0 < l.length := List.length_pos_iff.2 h
      rw [enc_step l h, List.length_append, chars_length, ih (l.drop 3) (by rw [List.length_drop]; omega), List.length_drop]
      omega
theorem enc_length (l : List Nat) : (enc l).length = (8 * l.length + 5) / 6 := enc_length_aux _ l (Nat.le_refl _)

theorem enc_lt_aux : ∀ (n : Nat) (l : List Nat), l.length ≤ n → ∀ c ∈ enc l, c < 256 := by
  intro n
  induction n with
  | zero =>
    intro l hl
    have : l = [] := List.eq_nil_of_length_eq_zero (by omega)
    subst this
    intro c hc
    simp [enc] at hc
  | succ n ih =>
    intro l hl
    by_cases h : l = []
    · subst h; intro c hc; simp [enc] at hc
    · have hp : 0 < l.length := List.length_pos_iff.2 h
      intro c hc
      rw [enc_step l h, List.mem_append] at hc
      rcases hc with hc | hc
      · exact chars_lt _ _ c hc
      · exact ih (l.drop 3) (by rw [List.length_drop]; omega) c hc
theorem enc_lt (l : List Nat) : ∀ c ∈ enc l, c < 256 := enc_lt_aux _ l (Nat.le_refl _)

/-! ### enc is one to one on lists of bytes of one length -/
theorem chars_inj (t N M : Nat) (h : chars t N = chars t M) : N % 64 ^ t = M % 64 ^ t := by
  induction t with
  | zero => rw [Nat.pow_zero, Nat.mod_one, Nat.mod_one]
  | succ t ih =>
    rw [chars_succ, chars_succ] at h
    obtain ⟨h1, h2⟩ := List.append_inj h (by rw [chars_length, chars_length])
    have h3 : alpha (N / 64 ^ t % 64) = alpha (M / 64 ^ t % 64) := by simpa using h2
    have h4 := alpha_inj ⟨_, Nat.mod_lt (N / 64 ^ t) (by omega : 0 < 64)⟩ ⟨_, Nat.mod_lt (M / 64 ^ t) (by omega : 0 < 64)⟩ h3
    have h5 : N / 64 ^ t % 64 = M / 64 ^ t % 64 := by simpa using h4
    rw [Nat.mod_pow_succ, Nat.mod_pow_succ, ih h1, h5]

theorem enc_inj_aux : ∀ (n : Nat) (x y : List Nat), x.length ≤ n → x.length = y.length → (∀ b ∈ x, b < 256) → (∀ b ∈ y, b < 256) → enc x = enc y → x = y := by
  intro n
  induction n with
  | zero =>
    intro x y hx hl _ _ _
    rw [List.eq_nil_of_length_eq_zero (show x.length = 0 by omega), List.eq_nil_of_length_eq_zero (show y.length = 0 by omega)]
  | succ n ih =>
    intro x y hx hl bx bY he
    match x, y, hl with
    | [], [], _ => rfl
    | [a], [a'], _ =>
      have h := chars_inj 2 _ _ he
      have h1 := bx a (by simp)
      have h2 := bY a' (by simp)
      simp [num] at h
      rw [Nat.mod_eq_of_lt (by omega), Nat.mod_eq_of_lt (by omega)] at h
      rw [h]
    | [a, b], [a', b'], _ =>
      have h := chars_inj 3 _ _ he
      have h1 := bx a (by simp)
      have h2 := bY a' (by simp)
      have h3 := bx b (by simp)
      have h4 := bY b' (by simp)
      simp [num] at h
      rw [Nat.mod_eq_of_lt (by omega), Nat.mod_eq_of_lt (by omega)] at h
      obtain rfl : a = a' := by omega
      obtain rfl : b = b' := by omega
      rfl
    | a :: b :: c :: r, a' :: b' :: c' :: r', hl =>
      simp only [enc] at he
      obtain ⟨e1, e2⟩ := List.append_inj he (by rw [chars_length, chars_length])
      have h := chars_inj 4 _ _ e1
      have h1 := bx a (by simp)
      have h2 := bY a' (by simp)
      have h3 := bx b (by simp)
      have h4 := bY b' (by simp)
      have h5 := bx c (by simp)
      have h6 := bY c' (by simp)
      simp [num] at h
      rw [Nat.mod_eq_of_lt (by omega), Nat.mod_eq_of_lt (by omega)] at h
      obtain rfl : a = a' := by omega
      obtain rfl : b = b' := by omega
      obtain rfl : c = c' := by omega
      have hr := ih r r' (by simp at hx; omega) (by simpa using hl) (fun x hx => bx x (by simp [hx])) (fun x hx => bY x (by simp [hx])) e2
      rw [hr]
theorem enc_inj (x y : List Nat) (hl : x.length = y.length) (bx : ∀ b ∈ x, b < 256) (bY : ∀ b ∈ y, b < 256) (he : enc x = enc y) : x = y :=
  enc_inj_aux _ x y (Nat.le_refl _) hl bx bY he
end Go.Proofs.Qxb6601597a
