/-
  descend, the law's own descent: it reaches the leaf cluster that 'leafOf' names.
-/
import Derived.Test.Qxb6600905aModsLeaf
namespace Go.Proofs.Qxb6600905aMods
open Go.RowKit

/-- The best so far, of the children from 'bs' up to 'c'. -/
def Found (o : Nat → Bool) (s : Nat → Int) (bs c : Nat) (fd : Bool) (z : Int) : Prop :=
  (fd = false ∧ z = 0 ∧ ∀ e, bs ≤ e → e < c → o e = false) ∨ (fd = true ∧ (∃ b, bs ≤ b ∧ b < c ∧ o b = true ∧ z = s b) ∧ ∀ e, bs ≤ e → e < c → o e = true → s e ≤ z)

theorem Found.skip {o : Nat → Bool} {s : Nat → Int} {bs c : Nat} {fd : Bool} {z : Int} (h : Found o s bs c fd z) (ho : o c = false) : Found o s bs (c + 1) fd z := by
  rcases h with ⟨h1, h2, h3⟩ | ⟨h1, ⟨b, b1, b2, b3, b4⟩, h3⟩
  · refine .inl ⟨h1, h2, fun e e1 e2 => ?_⟩
    by_cases x : e = c
    · subst x; exact ho
    · exact h3 e e1 (by omega)
  · refine .inr ⟨h1, ⟨b, b1, by omega, b3, b4⟩, fun e e1 e2 e3 => ?_⟩
    by_cases x : e = c
    · subst x; rw [ho] at e3; cases e3
    · exact h3 e e1 (by omega) e3

theorem Found.first {o : Nat → Bool} {s : Nat → Int} {bs c : Nat} {z : Int} (h : Found o s bs c false z) (hb : bs ≤ c) (ho : o c = true) : Found o s bs (c + 1) true (s c) := by
  rcases h with ⟨h1, h2, h3⟩ | ⟨h1, _⟩
  · refine .inr ⟨rfl, ⟨c, hb, by omega, ho, rfl⟩, fun e e1 e2 e3 => ?_⟩
    by_cases x : e = c
    · subst x; exact Int.le_refl _
    · have := h3 e e1 (by omega); rw [this] at e3; cases e3
  · cases h1

theorem Found.more {o : Nat → Bool} {s : Nat → Int} {bs c : Nat} {z : Int} (h : Found o s bs c true z) (hb : bs ≤ c) (ho : o c = true) (hz : z < s c) : Found o s bs (c + 1) true (s c) := by
  rcases h with ⟨h1, _⟩ | ⟨h1, _, h3⟩
  · cases h1
  · refine .inr ⟨rfl, ⟨c, hb, by omega, ho, rfl⟩, fun e e1 e2 e3 => ?_⟩
    by_cases x : e = c
    · subst x; exact Int.le_refl _
    · have := h3 e e1 (by omega) e3; omega

theorem Found.less {o : Nat → Bool} {s : Nat → Int} {bs c : Nat} {z : Int} (h : Found o s bs c true z) (hz : ¬ z < s c) : Found o s bs (c + 1) true z := by
  rcases h with ⟨h1, _⟩ | ⟨h1, ⟨b, b1, b2, b3, b4⟩, h3⟩
  · cases h1
  · refine .inr ⟨rfl, ⟨b, b1, by omega, b3, b4⟩, fun e e1 e2 e3 => ?_⟩
    by_cases x : e = c
    · subst x; omega
    · exact h3 e e1 (by omega) e3

theorem found_best {o : Nat → Bool} {s : Nat → Int} {bs f c : Nat} {fd : Bool} {z : Int} (h : Found o s bs (bs + f) fd z) (hex : ∃ d, d < f ∧ o (bs + d) = true) (h1 : bs ≤ c) (h2 : c < bs + f) (ho : o c = true) (hz : s c = z)
    (hn : ∀ e, bs ≤ e → e < c → ¬ (o e = true ∧ s e = z)) : Best (fun d => o (bs + d)) (fun d => s (bs + d)) f (c - bs) := by
  have hc : bs + (c - bs) = c := by omega
  rcases h with ⟨_, _, h3⟩ | ⟨_, _, h3⟩
  · obtain ⟨d, d1, d2⟩ := hex
    have := h3 (bs + d) (by omega) (by omega)
    rw [d2] at this; cases this
  · refine ⟨by omega, by show o (bs + (c - bs)) = true; rw [hc]; exact ho, fun e e1 e2 => ?_, fun e e1 e2 => ?_⟩
    · show s (bs + e) ≤ s (bs + (c - bs))
      rw [hc, hz]; exact h3 _ (by omega) (by omega) e2
    · show s (bs + e) < s (bs + (c - bs))
      rw [hc, hz]
      have a1 := h3 (bs + e) (by omega) (by omega) e2
      have a2 : s (bs + e) ≠ z := fun x => hn (bs + e) (by omega) (by omega) ⟨e2, x⟩
      omega

theorem found_some {o : Nat → Bool} {s : Nat → Int} {bs f : Nat} {fd : Bool} {z : Int} (h : Found o s bs (bs + f) fd z) (hex : ∃ d, d < f ∧ o (bs + d) = true) (hn : ∀ e, bs ≤ e → e < bs + f → ¬ (o e = true ∧ s e = z)) : False := by
  rcases h with ⟨_, _, h3⟩ | ⟨_, ⟨b, b1, b2, b3, b4⟩, _⟩
  · obtain ⟨d, d1, d2⟩ := hex
    have := h3 (bs + d) (by omega) (by omega)
    rw [d2] at this; cases this
  · exact hn b b1 b2 ⟨b3, b4.symm⟩

theorem occ_step {U : Nat → Bool} {L : Nat → Nat} {k : Nat} (hu : U k = true) (l : Nat) : (if l = L k then Value.bool true else Value.bool (decide (0 < cl U L l k))) = Value.bool (decide (0 < cl U L l (k + 1))) := by
  by_cases e : l = L k
  · rw [if_pos e, cl_yes hu e.symm]; simp
  · rw [if_neg e, cl_no (fun g => e g.2.symm)]

theorem occ_skip {U : Nat → Bool} {L : Nat → Nat} {k : Nat} (hu : U k = false) (l : Nat) : Value.bool (decide (0 < cl U L l k)) = Value.bool (decide (0 < cl U L l (k + 1))) := by
  rw [cl_no (fun g => by rw [hu] at g; cases g.1)]

/-- Some leaf cluster is occupied. -/
theorem occ_ex {M : Mems} {n C : Nat} (hC : 1 ≤ C) (h : ∃ i, i < n ∧ M.down i = false) : ∃ l, l < C ∧ occB (fun i => !M.down i) (lf M C) n l = true := by
  obtain ⟨i, h1, h2⟩ := h
  refine ⟨lf M C i, lf_lt (by omega), ?_⟩
  unfold occB
  rw [decide_eq_true_iff]
  exact Pl.cnt_pos.2 ⟨i, h1, by simp [inB, h2]⟩
end Go.Proofs.Qxb6600905aMods
