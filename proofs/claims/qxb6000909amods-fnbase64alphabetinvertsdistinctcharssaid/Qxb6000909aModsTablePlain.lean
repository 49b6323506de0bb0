namespace Go.Proofs.Qxb6000909aMods.Tab

/-- The byte at place 'k' of 'l', as a number. -/
def byteAt (l : List UInt8) (k : Nat) : Nat := (l[k]?.getD 0).toNat

/-- The last place below 'k' at which byte 'b' stands; -1 where it stands at none. -/
def lastIdx (l : List UInt8) : Nat → Nat → Int
  | 0, _ => -1
  | k + 1, b => if b = byteAt l k then (k : Int) else lastIdx l k b

/-- The table behind 'k' rounds. -/
def tabK (l : List UInt8) : Nat → Nat → Int
  | 0, _ => 255
  | k + 1, b => if b = byteAt l k then (k : Int) % 256 else tabK l k b

theorem tabK_succ (l : List UInt8) (k b : Nat) : tabK l (k + 1) b = if b = byteAt l k then (k : Int) % 256 else tabK l k b := rfl

theorem lastIdx_ge (l : List UInt8) : ∀ k b, -1 ≤ lastIdx l k b
  | 0, _ => by simp [lastIdx]
  | k + 1, b => by unfold lastIdx; split; omega; exact lastIdx_ge l k b

theorem lastIdx_lt (l : List UInt8) : ∀ k b, lastIdx l k b < k
  | 0, _ => by simp [lastIdx]
  | k + 1, b => by unfold lastIdx; split; omega; have := lastIdx_lt l k b; omega

theorem tabK_eq (l : List UInt8) : ∀ k b, tabK l k b = if lastIdx l k b < 0 then 255 else lastIdx l k b % 256
  | 0, _ => by simp [tabK, lastIdx]
  | k + 1, b => by
    unfold tabK lastIdx
    by_cases h : b = byteAt l k
    · rw [if_pos h, if_pos h, if_neg (by omega)]
    · rw [if_neg h, if_neg h]; exact tabK_eq l k b

theorem tabK_ge (l : List UInt8) (k b : Nat) : 0 ≤ tabK l k b ∧ tabK l k b < 256 := by
  rw [tabK_eq]; split <;> omega

/-- A byte that stands at place 'm' has its last place at 'm' or behind it. -/
theorem lastIdx_hit (l : List UInt8) : ∀ (k m : Nat), m < k → (m : Int) ≤ lastIdx l k (byteAt l m)
  | 0, m, h => by omega
  | k + 1, m, h => by
    unfold lastIdx
    by_cases e : byteAt l m = byteAt l k
    · rw [if_pos e]; omega
    · rw [if_neg e]
      exact lastIdx_hit l k m (by have : m ≠ k := fun q => e (by rw [q]); omega)

theorem lastIdx_at (l : List UInt8) : ∀ k b, 0 ≤ lastIdx l k b → byteAt l (lastIdx l k b).toNat = b
  | 0, b, h => by simp [lastIdx] at h
  | k + 1, b, h => by
    unfold lastIdx at h ⊢
    by_cases e : b = byteAt l k
    · rw [if_pos e]; simp [e]
    · rw [if_neg e] at h ⊢; exact lastIdx_at l k b h

/-- What 'want' holds when places from 'm' on have been looked at ('n': the length). -/
def want (l : List UInt8) (n m b : Nat) : Int := if (m : Int) ≤ lastIdx l n b then lastIdx l n b else -1

theorem want_start (l : List UInt8) (n b : Nat) : want l n n b = -1 := by
  unfold want; rw [if_neg]; have := lastIdx_lt l n b; omega

theorem want_end (l : List UInt8) (n b : Nat) : want l n 0 b = lastIdx l n b := by
  unfold want; have := lastIdx_ge l n b; split
  · rfl
  · omega

/-- The round at place 'm', want of that byte below nought: 'm' is stored. -/
theorem want_store (l : List UInt8) (n m b : Nat) (hm : m < n) (h : want l n (m + 1) (byteAt l m) < 0) :
    want l n m b = if b = byteAt l m then (m : Int) else want l n (m + 1) b := by
  have hh := lastIdx_hit l n m hm
  have hlast : lastIdx l n (byteAt l m) = m := by unfold want at h; split at h <;> omega
  by_cases e : b = byteAt l m
  · subst e; rw [if_pos rfl]; unfold want; rw [hlast]; simp
  · rw [if_neg e]; unfold want
    have : lastIdx l n b ≠ m := by
      intro q
      have := lastIdx_at l n b (by omega)
      rw [q] at this; simp at this; exact e this.symm
    by_cases g : (m : Int) ≤ lastIdx l n b
    · rw [if_pos g, if_pos (by omega)]
    · rw [if_neg g, if_neg (by omega)]

/-- The round at place 'm', want of that byte not below nought: nothing is stored. -/
theorem want_keep (l : List UInt8) (n m b : Nat) (h : ¬ want l n (m + 1) (byteAt l m) < 0) :
    want l n m b = want l n (m + 1) b := by
  have hlast : (m : Int) + 1 ≤ lastIdx l n (byteAt l m) := by unfold want at h; split at h <;> omega
  unfold want
  have : lastIdx l n b ≠ m := by
    intro q
    have := lastIdx_at l n b (by omega)
    rw [q] at this; simp at this; rw [this] at hlast; omega
  by_cases g : (m : Int) ≤ lastIdx l n b
  · rw [if_pos g, if_pos (by omega)]
  · rw [if_neg g, if_neg (by omega)]

/-! ### Distinct bytes -/
def Distinct (l : List UInt8) (n : Nat) : Prop := ∀ i j, i < n → j < n → byteAt l i = byteAt l j → i = j

/-- 'seen' behind 'k' rounds. -/
def seen (l : List UInt8) (k b : Nat) : Bool := decide (0 ≤ lastIdx l k b)

theorem seen_zero (l : List UInt8) (b : Nat) : seen l 0 b = false := by simp [seen, lastIdx]
theorem seen_succ (l : List UInt8) (k b : Nat) : seen l (k + 1) b = if b = byteAt l k then true else seen l k b := by
  unfold seen; conv => lhs; unfold lastIdx
  by_cases h : b = byteAt l k
  · simp [h]
  · simp [h]

theorem distinct_zero (l : List UInt8) : Distinct l 0 := fun _ _ h => by omega
theorem distinct_succ {l : List UInt8} {k : Nat} (h : Distinct l k) (hs : seen l k (byteAt l k) = false) : Distinct l (k + 1) := by
  have key : ∀ i, i < k → byteAt l i ≠ byteAt l k := by
    intro i hi e
    have := lastIdx_hit l k i hi
    rw [e] at this
    simp [seen] at hs; omega
  intro i j hi hj e
  by_cases h1 : i = k
  · by_cases h2 : j = k
    · omega
    · subst h1; exact absurd e.symm (key j (by omega))
  · by_cases h2 : j = k
    · subst h2; exact absurd e (key i (by omega))
    · exact h i j (by omega) (by omega) e

theorem lastIdx_distinct {l : List UInt8} {n : Nat} (h : Distinct l n) (i : Nat) (hi : i < n) : lastIdx l n (byteAt l i) = i := by
  have h1 := lastIdx_hit l n i hi
  have h2 := lastIdx_lt l n (byteAt l i)
  have h3 := lastIdx_at l n (byteAt l i) (by omega)
  have := h _ i (by omega) hi h3
  omega

/-- How many of the first 'm' bytes stand in the first 'k' places. -/
def count (l : List UInt8) (k : Nat) : Nat → Nat
  | 0 => 0
  | m + 1 => count l k m + if seen l k m = true then 1 else 0

theorem count_zero (l : List UInt8) : ∀ m, count l 0 m = 0
  | 0 => rfl
  | m + 1 => by unfold count; rw [count_zero l m, seen_zero]; simp

theorem count_succ (l : List UInt8) (k : Nat) (hs : seen l k (byteAt l k) = false) : ∀ m, count l (k + 1) m = count l k m + if byteAt l k < m then 1 else 0
  | 0 => by simp [count]
  | m + 1 => by
    unfold count
    rw [count_succ l k hs m, seen_succ]
    by_cases h : m = byteAt l k
    · subst h; rw [hs]; simp
    · rw [if_neg h]
      by_cases g : byteAt l k < m
      · have g' : byteAt l k < m + 1 := by omega
        simp only [g, g', if_true]; omega
      · have g' : ¬ byteAt l k < m + 1 := by omega
        simp only [g, g', if_false]; omega

theorem byteAt_lt (l : List UInt8) (k : Nat) : byteAt l k < 256 := by unfold byteAt; exact UInt8.toNat_lt _

theorem count_distinct {l : List UInt8} : ∀ {n : Nat}, Distinct l n → count l n 256 = n
  | 0, _ => count_zero l 256
  | n + 1, h => by
    have hn : Distinct l n := fun i j hi hj e => h i j (by omega) (by omega) e
    have hs : seen l n (byteAt l n) = false := by
      unfold seen; rw [decide_eq_false_iff_not]
      intro g
      have h2 := lastIdx_lt l n (byteAt l n)
      have h3 := lastIdx_at l n (byteAt l n) g
      have := h _ n (by omega) (by omega) h3
      omega
    rw [count_succ l n hs, count_distinct hn, if_pos (byteAt_lt l n)]

theorem count_le (l : List UInt8) (k : Nat) : ∀ m, count l k m ≤ m
  | 0 => Nat.le_refl _
  | m + 1 => by unfold count; have := count_le l k m; split <;> omega

end Go.Proofs.Qxb6000909aMods.Tab
