namespace Go.Proofs.Qxb6000909aMods.Cut

/-- Where the first '&' stands that no backslash escapes. -/
def cutPos : List UInt8 → Option Nat
  | [] => none
  | c :: r => if c = 38 then some 0 else if c = 92 then (match r with | [] => none | _ :: r' => (cutPos r').map (· + 2)) else (cutPos r).map (· + 1)

theorem cutPos_nil : cutPos [] = none := rfl
theorem cutPos_amp (r : List UInt8) : cutPos (38 :: r) = some 0 := by rw [cutPos.eq_def]; simp
theorem cutPos_esc1 : cutPos [92] = none := by rw [cutPos.eq_def]; simp
theorem cutPos_esc2 (d : UInt8) (r : List UInt8) : cutPos (92 :: d :: r) = (cutPos r).map (· + 2) := by rw [cutPos.eq_def]; simp
theorem cutPos_other (c : UInt8) (r : List UInt8) (h1 : c ≠ 38) (h2 : c ≠ 92) : cutPos (c :: r) = (cutPos r).map (· + 1) := by rw [cutPos.eq_def]; simp [h1, h2]

/-- What the loop knows at its head. -/
def At (l : List UInt8) (k : Nat) : Prop := cutPos l = (cutPos (l.drop k)).map (· + k)

theorem at_zero (l : List UInt8) : At l 0 := by simp [At]

theorem at_other {l : List UInt8} {k : Nat} (h : At l k) (hk : k < l.length) (h1 : l[k] ≠ 38) (h2 : l[k] ≠ 92) : At l (k + 1) := by
  unfold At at *
  rw [h, List.drop_eq_getElem_cons hk, cutPos_other _ _ h1 h2, Option.map_map]
  congr 1; funext x; simp; omega

theorem at_esc {l : List UInt8} {k : Nat} (h : At l k) (hk : k < l.length) (h2 : l[k] = 92) : At l (k + 2) := by
  unfold At at *
  rw [h, List.drop_eq_getElem_cons hk, h2]
  by_cases hk2 : k + 1 < l.length
  · rw [List.drop_eq_getElem_cons hk2, cutPos_esc2, Option.map_map]
    congr 1; funext x; simp; omega
  · rw [List.drop_of_length_le (by omega), List.drop_of_length_le (by omega), cutPos_esc1, cutPos_nil]; rfl

theorem at_hit {l : List UInt8} {k : Nat} (h : At l k) (hk : k < l.length) (h1 : l[k] = 38) : cutPos l = some k := by
  unfold At at *
  rw [h, List.drop_eq_getElem_cons hk, h1, cutPos_amp]; simp

theorem at_end {l : List UInt8} {k : Nat} (h : At l k) (hk : l.length ≤ k) : cutPos l = none := by
  unfold At at *
  rw [h, List.drop_of_length_le hk, cutPos_nil]; rfl

/-! ### The plain laws -/
theorem cutPos_law (n : Nat) : ∀ (l : List UInt8) (k : Nat), l.length ≤ n → cutPos l = some k →
    l = l.take k ++ 38 :: l.drop (k + 1) ∧ k < l.length ∧ cutPos (l.take k) = none ∧ ∀ t, cutPos (l.take k ++ 38 :: t) = some k := by
  induction n with
  | zero => intro l k hl h; have : l = [] := List.length_eq_zero_iff.1 (by omega); subst this; simp [cutPos] at h
  | succ n ih =>
    intro l k hl h
    match l, hl, h with
    | [], _, h => simp [cutPos] at h
    | c :: r, hl, h =>
      by_cases h1 : c = 38
      · subst h1; rw [cutPos_amp] at h; simp at h; subst h; simp [cutPos_nil, cutPos_amp]
      · by_cases h2 : c = 92
        · subst h2
          match r, hl, h with
          | [], _, h => rw [cutPos_esc1] at h; simp at h
          | d :: r, hl, h =>
            rw [cutPos_esc2] at h
            match hq : cutPos r, h with
            | none, h => simp at h
            | some j, h =>
              simp at h; subst h
              obtain ⟨a1, a2, a3, a4⟩ := ih r j (by simp at hl; omega) hq
              refine ⟨?_, by simp; omega, ?_, ?_⟩
              · simpa using a1
              · simp [cutPos_esc2, a3]
              · intro t; simp [cutPos_esc2, a4]
        · rw [cutPos_other _ _ h1 h2] at h
          match hq : cutPos r, h with
          | none, h => simp at h
          | some j, h =>
            simp at h; subst h
            obtain ⟨a1, a2, a3, a4⟩ := ih r j (by simp at hl; omega) hq
            refine ⟨?_, by simp; omega, ?_, ?_⟩
            · simpa using a1
            · simp [cutPos_other _ _ h1 h2, a3]
            · intro t; simp [cutPos_other _ _ h1 h2, a4]

/-! ### Escaping -/
def esc : List UInt8 → List UInt8
  | [] => []
  | c :: r => if c = 92 ∨ c = 38 then 92 :: c :: esc r else c :: esc r

theorem cutPos_esc_none (p : List UInt8) : cutPos (esc p) = none := by
  induction p with
  | nil => rfl
  | cons c r ih =>
    unfold esc
    by_cases h : c = 92 ∨ c = 38
    · rw [if_pos h, cutPos_esc2, ih]; rfl
    · rw [if_neg h, cutPos_other _ _ (fun e => h (Or.inr e)) (fun e => h (Or.inl e)), ih]; rfl

theorem cutPos_esc_amp (p t : List UInt8) : cutPos (esc p ++ 38 :: t) = some (esc p).length := by
  induction p with
  | nil => exact cutPos_amp t
  | cons c r ih =>
    unfold esc
    by_cases h : c = 92 ∨ c = 38
    · rw [if_pos h, List.cons_append, List.cons_append, cutPos_esc2, ih]; simp
    · rw [if_neg h, List.cons_append, cutPos_other _ _ (fun e => h (Or.inr e)) (fun e => h (Or.inl e)), ih]; simp

theorem esc_snoc (p : List UInt8) (c : UInt8) : esc (p ++ [c]) = esc p ++ (if c = 92 ∨ c = 38 then [92, c] else [c]) := by
  induction p with
  | nil => simp [esc]
  | cons d r ih =>
    rw [List.cons_append]; conv => lhs; unfold esc
    conv => rhs; unfold esc
    rw [ih]; by_cases h : d = 92 ∨ d = 38
    · simp [h]
    · simp [h]

theorem esc_length (p : List UInt8) : (esc p).length ≤ 2 * p.length := by
  induction p with
  | nil => simp [esc]
  | cons c r ih => unfold esc; split <;> simp <;> omega

end Go.Proofs.Qxb6000909aMods.Cut
