import Derived.Test.Qxb6000909aModsCutPlain
namespace Go.Proofs.Qxb6000909aMods.Cut

/-- The lengths of the first 'k' texts, summed. -/
def sumLen (S : Nat → List UInt8) : Nat → Nat
  | 0 => 0
  | k + 1 => sumLen S k + (S k).length

/-- What is joined behind 'k' rounds. -/
def joinTo (S : Nat → List UInt8) : Nat → List UInt8
  | 0 => []
  | k + 1 => joinTo S k ++ (if k = 0 then [] else [38]) ++ esc (S k)

/-- The last 'j' of 'n' escaped texts, joined. -/
def rem (S : Nat → List UInt8) (n : Nat) : Nat → List UInt8
  | 0 => []
  | 1 => esc (S (n - 1))
  | j + 2 => esc (S (n - (j + 2))) ++ 38 :: rem S n (j + 1)

theorem sumLen_le (S : Nat → List UInt8) {k n : Nat} (h : k ≤ n) : sumLen S k ≤ sumLen S n := by
  induction n with
  | zero => have : k = 0 := by omega
            subst this; exact Nat.le_refl _
  | succ n ih =>
    by_cases e : k = n + 1
    · subst e; exact Nat.le_refl _
    · have := ih (by omega); show _ ≤ sumLen S n + (S n).length; omega

theorem joinTo_zero (S : Nat → List UInt8) : joinTo S 1 = esc (S 0) := by simp [joinTo]
theorem joinTo_succ (S : Nat → List UInt8) (k : Nat) (h : k ≠ 0) : joinTo S (k + 1) = joinTo S k ++ [38] ++ esc (S k) := by simp [joinTo, h]

theorem joinTo_length (S : Nat → List UInt8) : ∀ k, (joinTo S k).length ≤ 2 * sumLen S k + k
  | 0 => by simp [joinTo]
  | k + 1 => by
    have h1 := joinTo_length S k
    have h2 := esc_length (S k)
    unfold joinTo sumLen
    by_cases h : k = 0
    · simp [h]; subst h; simp [joinTo, sumLen] at h1 ⊢; omega
    · simp [h]; omega

theorem joinTo_rem (S : Nat → List UInt8) (n : Nat) : ∀ j k, k + j + 1 = n → 1 ≤ k → joinTo S n = joinTo S k ++ 38 :: rem S n (j + 1)
  | 0, k, h, hk => by
    obtain rfl : n = k + 1 := by omega
    rw [joinTo_succ S k (by omega)]; simp [rem]
  | j + 1, k, h, hk => by
    rw [joinTo_rem S n j (k + 1) (by omega) (by omega), joinTo_succ S k (by omega)]
    have e : n - (j + 2) = k := by omega
    simp [rem, e]

theorem joinTo_all (S : Nat → List UInt8) (n : Nat) (h : 1 ≤ n) : joinTo S n = rem S n n := by
  match n, h with
  | 1, _ => rw [joinTo_zero]; simp [rem]
  | m + 2, _ =>
    rw [joinTo_rem S (m + 2) m 1 (by omega) (Nat.le_refl _), joinTo_zero]
    simp [rem]

end Go.Proofs.Qxb6000909aMods.Cut
