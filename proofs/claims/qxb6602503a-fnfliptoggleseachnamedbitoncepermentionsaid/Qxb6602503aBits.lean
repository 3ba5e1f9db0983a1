/- Plain mathematics, no Go in sight: bits toggled one after the other, and how often each was named. -/
namespace Go.Proofs.Qxb6602503a

/-- the bytes behind the first k flips -/
def fl (B F : Nat → Nat) : Nat → Nat → Nat
  | 0 => B
  | k + 1 => fun q => if q = F k / 8 then fl B F k q ^^^ 2 ^ (F k % 8) else fl B F k q
/-- was p named an odd number of times among the first k? -/
def od (F : Nat → Nat) : Nat → Nat → Bool
  | 0 => fun _ => false
  | k + 1 => fun p => if p = F k then !od F k p else od F k p

theorem fl_lt {B F : Nat → Nat} (h : ∀ q, B q < 256) : ∀ k q, fl B F k q < 256
  | 0, q => h q
  | k + 1, q => by
    unfold fl
    split
    · have h1 : fl B F k q < 2 ^ 8 := fl_lt h k q
      have h2 : 2 ^ (F k % 8) < 2 ^ 8 := Nat.pow_lt_pow_right (by omega) (by omega)
      exact Nat.xor_lt_two_pow h1 h2
    · exact fl_lt h k q

theorem fl_bit {B F : Nat → Nat} : ∀ k p, (fl B F k (p / 8)).testBit (p % 8) = ((B (p / 8)).testBit (p % 8) != od F k p)
  | 0, p => by simp [fl, od]
  | k + 1, p => by
    have ih := fl_bit (B := B) (F := F) k p
    unfold fl od
    by_cases e : p = F k
    · subst e
      rw [if_pos rfl, if_pos rfl, Nat.testBit_xor, ih, Nat.testBit_two_pow]
      simp
    · rw [if_neg e]
      by_cases e8 : p / 8 = F k / 8
      · rw [if_pos e8, Nat.testBit_xor, ih, Nat.testBit_two_pow]
        have : ¬ F k % 8 = p % 8 := by omega
        simp [this]
      · rw [if_neg e8, ih]

/-- bit s of x, as the program asks for it -/
def bit (x s : Nat) : Bool := decide (x / 2 ^ s % 2 = 1)
theorem bit_eq (x s : Nat) : bit x s = x.testBit s := by unfold bit; rw [Nat.testBit_eq_decide_div_mod_eq]
theorem law {B F : Nat → Nat} (k p : Nat) : bit (fl B F k (p / 8)) (p % 8) = (bit (B (p / 8)) (p % 8) != od F k p) := by rw [bit_eq, bit_eq, fl_bit]
end Go.Proofs.Qxb6602503a
