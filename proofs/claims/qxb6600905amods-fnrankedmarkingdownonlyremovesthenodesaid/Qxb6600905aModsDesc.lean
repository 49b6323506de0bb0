/-
  The plain mathematics of the descent: at each tier the first of the best children that are live. Nothing of the program's walk stands here.
-/
import Derived.Test.Qxb6600905aModsSort
namespace Go.Proofs.Qxb6600905aMods

theorem and_ones (x : Int) (h0 : 0 ≤ x) (h1 : x < 18446744073709551616) : bits .and .u64 x 18446744073709551615 = x := by
  have e : BitVec.ofInt 64 18446744073709551615 = BitVec.allOnes 64 := by decide
  show IntKind.u64.wrap ((BitVec.ofInt 64 x &&& BitVec.ofInt 64 18446744073709551615).toNat : Int) = x
  rw [e, BitVec.and_allOnes, BitVec.toNat_ofInt]
  show (((x % 2 ^ 64).toNat : Nat) : Int) % 2 ^ 64 = x
  omega

theorem and_none (x : Int) : bits .and .u64 x 0 = 0 := by
  have e : BitVec.ofInt 64 0 = 0#64 := by decide
  show IntKind.u64.wrap ((BitVec.ofInt 64 x &&& BitVec.ofInt 64 0).toNat : Int) = 0
  rw [e, BitVec.and_zero]; rfl

theorem sc_bound (km m : Int) : 0 ≤ sc km m ∧ sc km m < 18446744073709551616 := by
  have : sc km m = (bits .xor .u64 km m * 2685821657736338717) % 2 ^ 64 := rfl
  rw [this]
  omega

/-- Of the first 'n', 'd' is the first of those that meet 'o' with the greatest 's'. -/
def Best (o : Nat → Bool) (s : Nat → Int) (n d : Nat) : Prop := d < n ∧ o d = true ∧ (∀ e, e < n → o e = true → s e ≤ s d) ∧ ∀ e, e < d → o e = true → s e < s d

theorem Best.unique {o : Nat → Bool} {s : Nat → Int} {n d d' : Nat} (h : Best o s n d) (h' : Best o s n d') : d = d' := by
  rcases Nat.lt_trichotomy d d' with hlt | he | hgt
  · have h1 := h'.2.2.2 d hlt h.2.1
    have h2 := h.2.2.1 d' h'.1 h'.2.1
    omega
  · exact he
  · have h1 := h.2.2.2 d' hgt h'.2.1
    have h2 := h'.2.2.1 d h.1 h.2.1
    omega

/-- Fewer that meet it, but the best still does. -/
theorem Best.sub {o o' : Nat → Bool} {s : Nat → Int} {n d : Nat} (h : Best o s n d) (hs : ∀ e, e < n → o' e = true → o e = true) (hd : o' d = true) : Best o' s n d :=
  ⟨h.1, hd, fun e he ho => h.2.2.1 e he (hs e he ho), fun e he ho => h.2.2.2 e he (hs e (Nat.lt_trans he h.1) ho)⟩

/-- Does the virtual node 'v' above tier 't' (above tier 0: the root) hold an occupied leaf cluster? -/
def occAt (occ : Nat → Bool) (f : Nat → Nat) (T t v : Nat) : Bool := anyFrom occ (v * Pl.prodFrom f t (T - t)) (Pl.prodFrom f t (T - t))

theorem lvB_occAt (occ : Nat → Bool) (f : Nat → Nat) (T t v : Nat) : lvB occ f T t v = occAt occ f T (t + 1) v := rfl

theorem prodFrom_step (f : Nat → Nat) {T t : Nat} (h : t < T) : Pl.prodFrom f t (T - t) = f t * Pl.prodFrom f (t + 1) (T - (t + 1)) := by
  obtain ⟨j, hj⟩ : ∃ j, T - t = j + 1 := ⟨T - t - 1, by omega⟩
  rw [hj, show T - (t + 1) = j by omega]; rfl

theorem occAt_child (occ : Nat → Bool) (f : Nat → Nat) {T t : Nat} (h : t < T) (hp : 1 ≤ Pl.prodFrom f (t + 1) (T - (t + 1))) (v : Nat) (ho : occAt occ f T t v = true) :
    ∃ d, d < f t ∧ lvB occ f T t (v * f t + d) = true := by
  unfold occAt at ho
  rw [prodFrom_step f h, anyFrom_iff] at ho
  obtain ⟨l, h1, h2, h3⟩ := ho
  have hper : per f T t = Pl.prodFrom f (t + 1) (T - (t + 1)) := rfl
  unfold lvB
  rw [hper]
  generalize Pl.prodFrom f (t + 1) (T - (t + 1)) = p at *
  generalize f t = g at *
  have h1' : v * g ≤ l / p := by rw [Nat.le_div_iff_mul_le hp, Nat.mul_assoc]; exact h1
  have h2' : l / p < v * g + g := by rw [Nat.div_lt_iff_lt_mul hp, Nat.add_mul, Nat.mul_assoc]; exact h2
  refine ⟨l / p - v * g, by omega, ?_⟩
  rw [show v * g + (l / p - v * g) = l / p by omega, anyFrom_iff]
  have := Nat.div_add_mod l p
  have hm := Nat.mod_lt l (show 0 < p by omega)
  rw [Nat.mul_comm] at this
  exact ⟨l, by omega, by omega, h3⟩

/-- 'v' is the virtual node that the descent reaches above tier 't'. -/
def Path (o : Nat → Nat → Bool) (s : Nat → Nat → Int) (f : Nat → Nat) : Nat → Nat → Prop
  | 0, v => v = 0
  | t + 1, v => ∃ u d, Path o s f t u ∧ v = u * f t + d ∧ Best (fun d => o t (u * f t + d)) (fun d => s t (u * f t + d)) (f t) d

variable {o : Nat → Nat → Bool} {s : Nat → Nat → Int} {f : Nat → Nat}

theorem Path.unique : ∀ {t v v' : Nat}, Path o s f t v → Path o s f t v' → v = v'
  | 0, v, v', h, h' => by
    have e1 : v = 0 := h
    have e2 : v' = 0 := h'
    rw [e1, e2]
  | t + 1, v, v', ⟨u, d, h1, h2, h3⟩, ⟨u', d', h1', h2', h3'⟩ => by
    obtain rfl := Path.unique h1 h1'
    obtain rfl := h3.unique h3'
    rw [h2, h2']

theorem Path.lt : ∀ {t v : Nat}, Path o s f t v → v < Pl.prodTo f t
  | 0, v, h => by
    have e1 : v = 0 := h
    rw [e1]; exact Nat.zero_lt_one
  | t + 1, v, ⟨u, d, h1, h2, h3⟩ => by
    have hu := Path.lt h1
    have hd := h3.1
    rw [Pl.prodTo_succ, h2]
    have := Nat.mul_le_mul_right (f t) (show u + 1 ≤ Pl.prodTo f t from hu)
    rw [Nat.add_mul] at this
    omega

theorem Path.live {t v : Nat} (h : Path o s f (t + 1) v) : o t v = true := by
  obtain ⟨u, d, h1, h2, h3⟩ := h
  rw [h2]; exact h3.2.1

theorem Path.snoc {t u d : Nat} (h : Path o s f t u) (hb : Best (fun d => o t (u * f t + d)) (fun d => s t (u * f t + d)) (f t) d) : Path o s f (t + 1) (u * f t + d) := ⟨u, d, h, rfl, hb⟩

/-- On the path there is always a live child. -/
theorem path_child {occ : Nat → Bool} {T t v C : Nat} (h : Path (lvB occ f T) s f t v) (ht : t < T) (hf : ∀ i, i < T → 1 ≤ f i) (hC : Pl.prodTo f T = C) (hocc : ∃ l, l < C ∧ occ l = true) :
    ∃ d, d < f t ∧ lvB occ f T t (v * f t + d) = true := by
  refine occAt_child occ f ht (Pl.prodFrom_pos (fun i hi => hf i (by omega))) v ?_
  cases t with
  | zero =>
    have e1 : v = 0 := h
    subst e1
    obtain ⟨l, h1, h2⟩ := hocc
    unfold occAt
    rw [anyFrom_iff]
    have := Pl.prod_split f T 0
    rw [Nat.zero_add, hC] at this
    refine ⟨l, by omega, ?_, h2⟩
    rw [show T - 0 = T by omega]
    have e : Pl.prodTo f 0 = 1 := rfl
    rw [e, Nat.one_mul] at this
    omega
  | succ t =>
    have := Path.live h
    exact this

/-- The descent ends at an occupied leaf cluster. -/
theorem path_occ {occ : Nat → Bool} {T v : Nat} (hT : 1 ≤ T) (h : Path (lvB occ f T) s f T v) : occ v = true := by
  obtain ⟨t1, rfl⟩ : ∃ t1, T = t1 + 1 := ⟨T - 1, by omega⟩
  have := Path.live h
  rwa [lvB_last] at this

theorem anyFrom_mono {p q : Nat → Bool} (h : ∀ l, q l = true → p l = true) {lo n : Nat} (ha : anyFrom q lo n = true) : anyFrom p lo n = true := by
  rw [anyFrom_iff] at *
  obtain ⟨l, h1, h2, h3⟩ := ha
  exact ⟨l, h1, h2, h l h3⟩

/-- Fewer occupied clusters, but the one that the descent reaches is: the descent reaches it still. -/
theorem path_sub {occ occ' : Nat → Bool} {T l : Nat} (hs : ∀ k, occ' k = true → occ k = true) (ho : occ' l = true) (hf : ∀ i, i < T → 1 ≤ f i) :
    ∀ {t v : Nat}, t ≤ T → v * Pl.prodFrom f t (T - t) ≤ l → l < v * Pl.prodFrom f t (T - t) + Pl.prodFrom f t (T - t) → Path (lvB occ f T) s f t v → Path (lvB occ' f T) s f t v
  | 0, v, _, _, _, h => h
  | t + 1, v, ht, h1, h2, ⟨u, d, hp, hv, hb⟩ => by
    have hl : lvB occ' f T t (u * f t + d) = true := by
      rw [← hv]; unfold lvB; rw [anyFrom_iff]
      exact ⟨l, h1, h2, ho⟩
    have hd := hb.1
    refine ⟨u, d, path_sub hs ho hf (by omega) ?_ ?_ hp, hv, hb.sub (fun e _ he => anyFrom_mono hs he) hl⟩
    · rw [prodFrom_step f (show t < T by omega), ← Nat.mul_assoc]
      refine Nat.le_trans (Nat.mul_le_mul_right _ ?_) h1
      omega
    · rw [prodFrom_step f (show t < T by omega)]
      generalize Pl.prodFrom f (t + 1) (T - (t + 1)) = p at *
      refine Nat.lt_of_lt_of_le h2 ?_
      rw [← Nat.mul_assoc, ← Nat.add_mul]
      have := Nat.mul_le_mul_right p (show v + 1 ≤ u * f t + f t by omega)
      rw [Nat.add_mul] at this
      omega

theorem path_less {occ occ' : Nat → Bool} {T l : Nat} (hs : ∀ k, occ' k = true → occ k = true) (ho : occ' l = true) (hf : ∀ i, i < T → 1 ≤ f i) (h : Path (lvB occ f T) s f T l) : Path (lvB occ' f T) s f T l := by
  have e : Pl.prodFrom f T (T - T) = 1 := by rw [Nat.sub_self]; rfl
  refine path_sub hs ho hf (Nat.le_refl _) ?_ ?_ h
  · rw [e]; omega
  · rw [e]; omega
end Go.Proofs.Qxb6600905aMods
