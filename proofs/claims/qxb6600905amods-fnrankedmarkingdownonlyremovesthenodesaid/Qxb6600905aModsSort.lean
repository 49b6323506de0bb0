/-
  The plain mathematics of the counting sort by leaf cluster, and of the live marks. Nothing of the program's walk stands here.
-/
import Derived.Test.Qxb6600905aModsGates
namespace Go.Proofs.Qxb6600905aMods

/-- How many of the first 'k' members are up in leaf cluster 'l'. -/
def cl (U : Nat → Bool) (L : Nat → Nat) (l k : Nat) : Nat := Pl.cnt (inB U L l) k

/-- Where leaf cluster 'l' begins among the nodes of 'n' members. -/
def start (U : Nat → Bool) (L : Nat → Nat) (n : Nat) : Nat → Nat
  | 0 => 0
  | l + 1 => start U L n l + cl U L l n

theorem start_succ (U : Nat → Bool) (L : Nat → Nat) (n l : Nat) : start U L n (l + 1) = start U L n l + cl U L l n := rfl

/-- Where member 'i' lies among the nodes. -/
def pos (U : Nat → Bool) (L : Nat → Nat) (n i : Nat) : Nat := start U L n (L i) + cl U L (L i) i

variable {U : Nat → Bool} {L : Nat → Nat} {n C : Nat}

theorem start_le {a b : Nat} (h : a ≤ b) : start U L n a ≤ start U L n b := by
  induction b with
  | zero => have : a = 0 := by omega
            subst this; exact Nat.le_refl _
  | succ b ih =>
    by_cases e : a = b + 1
    · subst e; exact Nat.le_refl _
    · have := ih (by omega); rw [start_succ]; omega

theorem inB_self {i : Nat} (h : U i = true) : inB U L (L i) i = true := by simp [inB, h]

theorem pos_lt {i : Nat} (hi : i < n) (h : U i = true) : pos U L n i < start U L n (L i + 1) := by
  have := Pl.cnt_lt hi (inB_self (L := L) h)
  unfold pos; rw [start_succ]; unfold cl; omega

theorem pos_inj {i j : Nat} (hi : i < n) (hj : j < n) (hu : U i = true) (hv : U j = true) (h : pos U L n i = pos U L n j) : i = j := by
  have h1 := pos_lt (L := L) hi hu
  have h2 := pos_lt (L := L) hj hv
  by_cases e : L i = L j
  · unfold pos at h
    rw [e] at h
    have hij : cl U L (L j) i = cl U L (L j) j := by omega
    exact Pl.cnt_inj (p := inB U L (L j)) (by rw [← e]; exact inB_self hu) (inB_self hv) hij
  · rcases Nat.lt_or_gt_of_ne e with hlt | hgt
    · have := start_le (U := U) (L := L) (n := n) (show L i + 1 ≤ L j from hlt)
      have h3 : start U L n (L j) ≤ pos U L n j := Nat.le_add_right _ _
      omega
    · have := start_le (U := U) (L := L) (n := n) (show L j + 1 ≤ L i from hgt)
      have h3 : start U L n (L i) ≤ pos U L n i := Nat.le_add_right _ _
      omega

/-- The members up of the first 'c' leaf clusters among the first 'k'. -/
def sumTo (U : Nat → Bool) (L : Nat → Nat) (k : Nat) : Nat → Nat
  | 0 => 0
  | c + 1 => sumTo U L k c + cl U L c k

theorem start_eq (U : Nat → Bool) (L : Nat → Nat) (n : Nat) : ∀ c, start U L n c = sumTo U L n c
  | 0 => rfl
  | c + 1 => by rw [start_succ, start_eq U L n c]; rfl

theorem sumTo_step (U : Nat → Bool) (L : Nat → Nat) (k : Nat) : ∀ c, sumTo U L (k + 1) c = sumTo U L k c + if U k = true ∧ L k < c then 1 else 0
  | 0 => by simp [sumTo]
  | c + 1 => by
    show sumTo U L (k + 1) c + cl U L c (k + 1) = sumTo U L k c + cl U L c k + _
    rw [sumTo_step U L k c]
    unfold cl
    rw [Pl.cnt_succ]
    by_cases hu : U k = true
    · by_cases hl : L k = c
      · have : inB U L c k = true := by simp [inB, hu, hl]
        rw [if_pos this, if_neg (by omega), if_pos ⟨hu, by omega⟩]; omega
      · have : ¬ inB U L c k = true := by simp [inB, hl]
        rw [if_neg this]
        by_cases hlt : L k < c
        · rw [if_pos ⟨hu, hlt⟩, if_pos ⟨hu, by omega⟩]; omega
        · rw [if_neg (fun h => hlt h.2), if_neg (fun h => hlt (by omega))]; omega
    · have : ¬ inB U L c k = true := by simp [inB, hu]
      rw [if_neg this, if_neg (fun h => hu h.1), if_neg (fun h => hu h.1)]; omega

theorem sumTo_all (U : Nat → Bool) (L : Nat → Nat) (C : Nat) : ∀ k, (∀ i, i < k → L i < C) → sumTo U L k C = Pl.cnt U k
  | 0, _ => by
    have : ∀ c, sumTo U L 0 c = 0 := by
      intro c
      induction c with
      | zero => rfl
      | succ c ih => show sumTo U L 0 c + cl U L c 0 = 0; rw [ih]; rfl
    rw [this]; rfl
  | k + 1, h => by
    rw [sumTo_step, sumTo_all U L C k (fun i hi => h i (by omega)), Pl.cnt_succ]
    by_cases hu : U k = true
    · rw [if_pos ⟨hu, h k (by omega)⟩, if_pos hu]
    · rw [if_neg (fun g => hu g.1), if_neg hu]

theorem start_all (hL : ∀ i, i < n → L i < C) : start U L n C = Pl.cnt U n := by rw [start_eq, sumTo_all U L C n hL]

theorem pos_up (hL : ∀ i, i < n → L i < C) {i : Nat} (hi : i < n) (h : U i = true) : pos U L n i < Pl.cnt U n := by
  rw [← start_all (U := U) hL]
  exact Nat.lt_of_lt_of_le (pos_lt hi h) (start_le (hL i hi))

theorem cl_le (U : Nat → Bool) (L : Nat → Nat) (l k : Nat) : cl U L l k ≤ k := Pl.cnt_le _ _
theorem cl_yes {l k : Nat} (hu : U k = true) (hl : L k = l) : cl U L l (k + 1) = cl U L l k + 1 := Pl.cnt_yes (by simp [inB, hu, hl])
theorem cl_no {l k : Nat} (h : ¬ (U k = true ∧ L k = l)) : cl U L l (k + 1) = cl U L l k := by
  refine Pl.cnt_no ?_
  cases hu : U k
  · simp [inB, hu]
  · have : L k ≠ l := fun e => h ⟨hu, e⟩
    simp [inB, this]

theorem start_bound (hL : ∀ i, i < n → L i < C) {l : Nat} (hl : l ≤ C) : start U L n l ≤ n := by
  have := start_le (U := U) (L := L) (n := n) hl
  rw [start_all (U := U) hL] at this
  have h2 := Pl.cnt_le U n
  omega

/-- What bounds holds while it counts. -/
def bnd (U : Nat → Bool) (L : Nat → Nat) (k l : Nat) : Nat := if l = 0 then 0 else cl U L (l - 1) k

theorem bnd_zero (U : Nat → Bool) (L : Nat → Nat) (l : Nat) : bnd U L 0 l = 0 := by unfold bnd; split; rfl; rfl
theorem bnd_step {k l : Nat} (hu : U k = true) : bnd U L (k + 1) l = if l = L k + 1 then bnd U L k (L k + 1) + 1 else bnd U L k l := by
  unfold bnd
  by_cases h0 : l = 0
  · subst h0; simp
  · rw [if_neg h0]
    by_cases h : l = L k + 1
    · subst h; simp [cl_yes hu rfl]
    · rw [if_neg h, if_neg h0, cl_no (fun g => h (by omega))]
theorem bnd_skip {k l : Nat} (hu : U k = false) : bnd U L (k + 1) l = bnd U L k l := by
  unfold bnd; split
  · rfl
  · rw [cl_no (fun g => by rw [hu] at g; cases g.1)]
theorem bnd_le {k l : Nat} : bnd U L k l ≤ k := by unfold bnd; split; omega; exact cl_le _ _ _ _

/-- What bounds holds while it sums: the first 'l' places are summed. -/
def bsum (U : Nat → Bool) (L : Nat → Nat) (n l j : Nat) : Nat := if j < l then start U L n j else bnd U L n j

theorem bsum_one (U : Nat → Bool) (L : Nat → Nat) (n j : Nat) : bnd U L n j = bsum U L n 1 j := by
  unfold bsum; split
  · have : j = 0 := by omega
    subst this; rfl
  · rfl
theorem bsum_step {l j : Nat} (hl : 1 ≤ l) : bsum U L n (l + 1) j = if j = l then bsum U L n l l + bsum U L n l (l - 1) else bsum U L n l j := by
  unfold bsum
  by_cases e : j = l
  · subst e
    rw [if_pos (by omega), if_pos rfl, if_neg (by omega), if_pos (by omega)]
    obtain ⟨m, rfl⟩ : ∃ m, j = m + 1 := ⟨j - 1, by omega⟩
    rw [start_succ]; unfold bnd; simp; omega
  · rw [if_neg e]
    by_cases h : j < l
    · rw [if_pos h, if_pos (by omega)]
    · rw [if_neg h, if_neg (by omega)]
theorem bsum_end {j : Nat} (h : j ≤ C) : bsum U L n (C + 1) j = start U L n j := by unfold bsum; rw [if_pos (by omega)]

/-! ### Live marks -/
/-- Is leaf cluster 'l' occupied? -/
def occB (U : Nat → Bool) (L : Nat → Nat) (n l : Nat) : Bool := decide (0 < cl U L l n)

/-- How many leaf clusters lie below a virtual node of tier 't' of 'T'. -/
def per (f : Nat → Nat) (T t : Nat) : Nat := Pl.prodFrom f (t + 1) (T - (t + 1))

/-- Is the virtual node 'v' of tier 't' live? -/
def lvB (occ : Nat → Bool) (f : Nat → Nat) (T t v : Nat) : Bool := anyFrom occ (v * per f T t) (per f T t)

theorem per_last (f : Nat → Nat) (t1 : Nat) : per f (t1 + 1) t1 = 1 := by unfold per; rw [Nat.sub_self]; rfl
theorem per_step (f : Nat → Nat) {T t : Nat} (h : t + 1 < T) : per f T t = f (t + 1) * per f T (t + 1) := by
  unfold per
  obtain ⟨j, hj⟩ : ∃ j, T - (t + 1) = j + 1 := ⟨T - (t + 1) - 1, by omega⟩
  rw [hj, show T - (t + 1 + 1) = j by omega]; rfl

theorem lvB_last (occ : Nat → Bool) (f : Nat → Nat) (t1 v : Nat) : lvB occ f (t1 + 1) t1 v = occ v := by
  unfold lvB; rw [per_last, Nat.mul_one]; simp [anyFrom]

theorem lvB_step (occ : Nat → Bool) (f : Nat → Nat) {T t : Nat} (h : t + 1 < T) (hp : 1 ≤ per f T (t + 1)) (v : Nat) :
    lvB occ f T t v = anyFrom (lvB occ f T (t + 1)) (v * f (t + 1)) (f (t + 1)) := by
  rw [Bool.eq_iff_iff]
  unfold lvB
  rw [per_step f h, anyFrom_iff, anyFrom_iff]
  generalize f (t + 1) = g
  generalize per f T (t + 1) = p at hp
  constructor
  · rintro ⟨l, h1, h2, h3⟩
    refine ⟨l / p, ?_, ?_, ?_⟩
    · rw [Nat.le_div_iff_mul_le hp, Nat.mul_assoc]; exact h1
    · rw [Nat.div_lt_iff_lt_mul hp, Nat.add_mul, Nat.mul_assoc]; exact h2
    · rw [anyFrom_iff]
      have := Nat.div_add_mod l p
      have hm := Nat.mod_lt l (show 0 < p by omega)
      rw [Nat.mul_comm] at this
      exact ⟨l, by omega, by omega, h3⟩
  · rintro ⟨c, h1, h2, h3⟩
    rw [anyFrom_iff] at h3
    obtain ⟨l, h4, h5, h6⟩ := h3
    refine ⟨l, ?_, ?_, h6⟩
    · have := Nat.mul_le_mul_right p h1
      rw [Nat.mul_assoc] at this; omega
    · have := Nat.mul_le_mul_right p (show c + 1 ≤ v * g + g from h2)
      rw [Nat.add_mul, Nat.add_mul, Nat.mul_assoc] at this; omega

/-- A live mark. -/
def liveV (b : Bool) : Int := if b then 18446744073709551615 else 0

theorem anyFrom_snoc (p : Nat → Bool) : ∀ (j lo : Nat), anyFrom p lo (j + 1) = (anyFrom p lo j || p (lo + j))
  | 0, lo => by simp [anyFrom]
  | j + 1, lo => by
    show (p lo || anyFrom p (lo + 1) (j + 1)) = (p lo || anyFrom p (lo + 1) j || p (lo + (j + 1)))
    rw [anyFrom_snoc p j (lo + 1), Bool.or_assoc, show lo + 1 + j = lo + (j + 1) by omega]

end Go.Proofs.Qxb6600905aMods
