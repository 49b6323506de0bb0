/-
  The plain mathematics of the seat: counting, products of fan-outs. Nothing of the program stands here.
-/
namespace Go.Proofs.Qxb6600905aMods.Pl

/-- How many of the first 'k' numbers meet 'p'. -/
def cnt (p : Nat → Bool) : Nat → Nat
  | 0 => 0
  | k + 1 => cnt p k + if p k = true then 1 else 0

theorem cnt_succ (p : Nat → Bool) (k : Nat) : cnt p (k + 1) = cnt p k + if p k = true then 1 else 0 := rfl
theorem cnt_yes {p : Nat → Bool} {k : Nat} (h : p k = true) : cnt p (k + 1) = cnt p k + 1 := by rw [cnt_succ, if_pos h]
theorem cnt_no {p : Nat → Bool} {k : Nat} (h : p k = false) : cnt p (k + 1) = cnt p k := by rw [cnt_succ, h]; rfl

theorem cnt_le (p : Nat → Bool) : ∀ k, cnt p k ≤ k
  | 0 => Nat.le_refl _
  | k + 1 => by have := cnt_le p k; rw [cnt_succ]; split <;> omega

theorem cnt_mono (p : Nat → Bool) {a b : Nat} (h : a ≤ b) : cnt p a ≤ cnt p b := by
  induction b with
  | zero => have : a = 0 := by omega
            subst this; exact Nat.le_refl _
  | succ b ih =>
    by_cases e : a = b + 1
    · subst e; exact Nat.le_refl _
    · have := ih (by omega); rw [cnt_succ]; omega

theorem cnt_lt {p : Nat → Bool} {a b : Nat} (h : a < b) (ha : p a = true) : cnt p a < cnt p b := by
  have := cnt_mono p (show a + 1 ≤ b from h)
  rw [cnt_yes ha] at this; omega

theorem cnt_congr {p q : Nat → Bool} : ∀ {k : Nat}, (∀ i, i < k → p i = q i) → cnt p k = cnt q k
  | 0, _ => rfl
  | k + 1, h => by rw [cnt_succ, cnt_succ, cnt_congr (fun i hi => h i (by omega)), h k (by omega)]

/-- The one that is numbered 'r' among those that meet 'p'. -/
theorem cnt_find {p : Nat → Bool} : ∀ {n r : Nat}, r < cnt p n → ∃ i, i < n ∧ p i = true ∧ cnt p i = r
  | 0, r, h => by simp [cnt] at h
  | n + 1, r, h => by
    by_cases hr : r < cnt p n
    · obtain ⟨i, h1, h2, h3⟩ := cnt_find hr
      exact ⟨i, by omega, h2, h3⟩
    · rw [cnt_succ] at h
      split at h
      · exact ⟨n, by omega, by assumption, by omega⟩
      · omega

theorem cnt_inj {p : Nat → Bool} {i j : Nat} (hi : p i = true) (hj : p j = true) (h : cnt p i = cnt p j) : i = j := by
  rcases Nat.lt_trichotomy i j with hlt | he | hgt
  · have := cnt_lt hlt hi; omega
  · exact he
  · have := cnt_lt hgt hj; omega

theorem cnt_pos {p : Nat → Bool} {n : Nat} : 0 < cnt p n ↔ ∃ i, i < n ∧ p i = true := by
  constructor
  · intro h; obtain ⟨i, h1, h2, _⟩ := cnt_find h; exact ⟨i, h1, h2⟩
  · rintro ⟨i, h1, h2⟩; have := cnt_lt h1 h2; omega

/-! ### Fan-outs -/
def prodTo (f : Nat → Nat) : Nat → Nat
  | 0 => 1
  | k + 1 => prodTo f k * f k

theorem prodTo_succ (f : Nat → Nat) (k : Nat) : prodTo f (k + 1) = prodTo f k * f k := rfl

theorem prodTo_pos {f : Nat → Nat} : ∀ {k : Nat}, (∀ i, i < k → 1 ≤ f i) → 1 ≤ prodTo f k
  | 0, _ => Nat.le_refl _
  | k + 1, h => by
    rw [prodTo_succ]
    exact Nat.mul_pos (prodTo_pos (fun i hi => h i (by omega))) (h k (by omega))

/-- The product of the fan-outs from 'a' on, 'j' of them. -/
def prodFrom (f : Nat → Nat) (a : Nat) : Nat → Nat
  | 0 => 1
  | j + 1 => f a * prodFrom f (a + 1) j

theorem prod_split (f : Nat → Nat) : ∀ (j a : Nat), prodTo f (a + j) = prodTo f a * prodFrom f a j
  | 0, a => by simp [prodFrom]
  | j + 1, a => by
    rw [show a + (j + 1) = (a + 1) + j by omega, prod_split f j (a + 1), prodTo_succ, prodFrom, Nat.mul_assoc]

theorem prodFrom_pos {f : Nat → Nat} : ∀ {j a : Nat}, (∀ i, i < a + j → 1 ≤ f i) → 1 ≤ prodFrom f a j
  | 0, _, _ => Nat.le_refl _
  | j + 1, a, h => by
    rw [prodFrom]
    exact Nat.mul_pos (h a (by omega)) (prodFrom_pos (fun i hi => h i (by omega)))

theorem prodTo_le {f : Nat → Nat} {a b : Nat} (h : a ≤ b) (hf : ∀ i, i < b → 1 ≤ f i) : prodTo f a ≤ prodTo f b := by
  obtain ⟨j, rfl⟩ : ∃ j, b = a + j := ⟨b - a, by omega⟩
  rw [prod_split]
  exact Nat.le_mul_of_pos_right _ (prodFrom_pos hf)

/-- Where the virtual nodes of tier 't' begin. -/
def offTo (f : Nat → Nat) : Nat → Nat
  | 0 => 0
  | t + 1 => offTo f t + prodTo f (t + 1)

theorem offTo_succ (f : Nat → Nat) (t : Nat) : offTo f (t + 1) = offTo f t + prodTo f (t + 1) := rfl

theorem offTo_le {f : Nat → Nat} {C n : Nat} (hf : ∀ i, i < n → 1 ≤ f i) (hC : prodTo f n ≤ C) : ∀ {t : Nat}, t ≤ n → offTo f t ≤ t * C
  | 0, _ => by simp [offTo]
  | t + 1, h => by
    have h1 := offTo_le hf hC (show t ≤ n by omega)
    have h2 := prodTo_le h hf
    rw [offTo_succ, Nat.succ_mul]; omega

end Go.Proofs.Qxb6600905aMods.Pl
