/-
  THE PLAIN SIDE OF encodeModel: bit k of a group's number is bit k % 8 of the byte that lies k / 8 places up from the group's last byte.
-/
import Derived.Test.Qxb6601597aEnc
namespace Go.Proofs.Qxb6601597a

theorem num_byte (l : List Nat) (h : ∀ b ∈ l, b < 256) (hl : l.length ≤ 3) (pos : Nat) (hp : pos < l.length) :
    num l / 256 ^ pos % 256 = l.getD (l.length - 1 - pos) 0 := by
  match l, hl, pos, hp with
  | [a], _, 0, _ => have := h a (by simp); simp [num]; omega
  | [a, b], _, 0, _ => have := h b (by simp); simp [num]; omega
  | [a, b], _, 1, _ => have := h a (by simp); have := h b (by simp); simp [num]; omega
  | [a, b, c], _, 0, _ => have := h c (by simp); simp [num]; omega
  | [a, b, c], _, 1, _ => have := h b (by simp); have := h c (by simp); simp [num]; omega
  | [a, b, c], _, 2, _ => have := h a (by simp); have := h b (by simp); have := h c (by simp); simp [num]; omega
  | [a], _, n + 1, hp => simp at hp
  | [a, b], _, n + 2, hp => simp at hp; omega
  | [a, b, c], _, n + 3, hp => simp at hp; omega
  | [], _, _, hp => simp at hp
  | a :: b :: c :: d :: r, hl, _, _ => simp at hl

theorem bit_low (a s : Nat) (hs : s < 8) : a % 256 / 2 ^ s % 2 = a / 2 ^ s % 2 := by
  match s, hs with
  | 0, _ => omega
  | 1, _ => omega
  | 2, _ => omega
  | 3, _ => omega
  | 4, _ => omega
  | 5, _ => omega
  | 6, _ => omega
  | 7, _ => omega
  | n + 8, h => omega

/-- Bit K of the group's number, K = 8 * P + S. -/
theorem num_bit (l : List Nat) (h : ∀ b ∈ l, b < 256) (hl : l.length ≤ 3) (K : Nat) (hp : K / 8 < l.length) :
    num l / 2 ^ K % 2 = l.getD (l.length - 1 - K / 8) 0 / 2 ^ (K % 8) % 2 := by
  rw [← num_byte l h hl (K / 8) hp, bit_low _ _ (Nat.mod_lt _ (by omega)), Nat.div_div_eq_div_mul]
  have e : 256 ^ (K / 8) * 2 ^ (K % 8) = 2 ^ K := by
    rw [show (256 : Nat) = 2 ^ 8 from rfl, ← Nat.pow_mul, ← Nat.pow_add, Nat.div_add_mod]
  rw [e]

theorem num_high (l : List Nat) (h : ∀ b ∈ l, b < 256) (K : Nat) (hp : l.length ≤ K / 8) : num l / 2 ^ K % 2 = 0 := by
  have h1 := num_lt l h
  have h2 : 256 ^ l.length ≤ 2 ^ K := by
    rw [show (256 : Nat) = 2 ^ 8 from rfl, ← Nat.pow_mul]
    exact Nat.pow_le_pow_right (by omega) (by omega)
  rw [Nat.div_eq_of_lt (by omega)]

/-- One bit more of M. -/
theorem mod_step (N c b : Nat) : N / 64 ^ c % 2 ^ (b + 1) = N / 64 ^ c % 2 ^ b + 2 ^ b * (N / 2 ^ (6 * c + b) % 2) := by
  have e : (64 : Nat) ^ c * 2 ^ b = 2 ^ (6 * c + b) := by
    rw [show (64 : Nat) = 2 ^ 6 from rfl, ← Nat.pow_mul, ← Nat.pow_add]
  rw [Nat.mod_pow_succ, Nat.div_div_eq_div_mul, e]
end Go.Proofs.Qxb6601597a
