/-
  One member fewer: the plain mathematics, and sameRanked for the two lists.
-/
import Derived.Test.Qxb6600905aModsSame
namespace Go.Proofs.Qxb6600905aMods
open Go.RowKit

section
variable {M : Mems} {j C : Nat}

theorem lf_down (M : Mems) (j : Int) (C i : Nat) : lf (downM M j) C i = lf M C i := rfl

theorem down_iff {i : Nat} : (downM M (j : Int)).down i = false ↔ M.down i = false ∧ i ≠ j := by
  show (M.down i || ((i : Int) == (j : Int))) = false ↔ _
  rw [Bool.or_eq_false_iff]
  constructor
  · rintro ⟨h1, h2⟩
    refine ⟨h1, fun e => ?_⟩
    subst e; simp at h2
  · rintro ⟨h1, h2⟩
    refine ⟨h1, ?_⟩
    simp; omega

/-- The members up of a cluster, counted with and without member 'j'. -/
theorem cl_down (hj : M.down j = false) (l : Nat) : ∀ k, cl (fun i => !M.down i) (lf M C) l k = cl (fun i => !(downM M (j : Int)).down i) (lf M C) l k + if j < k ∧ lf M C j = l then 1 else 0
  | 0 => by simp [cl, Pl.cnt]
  | k + 1 => by
    have ih := cl_down hj l k
    by_cases hk : k = j
    · subst hk
      have h1 : cl (fun i => !(downM M (k : Int)).down i) (lf M C) l (k + 1) = cl (fun i => !(downM M (k : Int)).down i) (lf M C) l k := by
        refine cl_no (fun g => ?_)
        have : (downM M (k : Int)).down k = false := by simpa using g.1
        exact (down_iff.1 this).2 rfl
      rw [if_neg (by omega)] at ih
      by_cases hl : lf M C k = l
      · rw [cl_yes (by simp [hj]) hl, h1, if_pos ⟨by omega, hl⟩, ih]
      · rw [cl_no (fun g => hl g.2), h1, if_neg (fun g => hl g.2), ih]
    · have he : (if j < k + 1 ∧ lf M C j = l then 1 else 0) = if j < k ∧ lf M C j = l then 1 else 0 := by
        by_cases h : j < k
        · by_cases hl : lf M C j = l
          · rw [if_pos ⟨by omega, hl⟩, if_pos ⟨h, hl⟩]
          · rw [if_neg (fun g => hl g.2), if_neg (fun g => hl g.2)]
        · rw [if_neg (by omega), if_neg (by omega)]
      rw [he]
      by_cases hu : M.down k = false ∧ lf M C k = l
      · have h2 : (downM M (j : Int)).down k = false := down_iff.2 ⟨hu.1, hk⟩
        rw [cl_yes (by simp [hu.1]) hu.2, cl_yes (by simp [h2]) hu.2, ih]; omega
      · rw [cl_no (fun g => hu ⟨by simpa using g.1, g.2⟩), cl_no (fun g => hu ⟨(down_iff.1 (by simpa using g.1)).1, g.2⟩), ih]

theorem occ_down {n l : Nat} (hj : M.down j = false) (h : occB (fun i => !(downM M (j : Int)).down i) (lf M C) n l = true) : occB (fun i => !M.down i) (lf M C) n l = true := by
  rw [occB_iff] at *
  have := cl_down (C := C) hj l n
  omega
end

/-- The descent keeps its leaf cluster. -/
theorem leaf_down {km : Int} {n : Nat} {M : Mems} {F : Nat → Int} {T nd : Nat} {D : Nat → Int} {j : Nat} (hS : ShapeOk F T) (hjn : j < n) (hj : M.down j = false)
    (hne : ¬ (lf M (Pl.prodTo (fN F) T) j = leafOf km n M F T nd D ∧ cl (fun i => !M.down i) (lf M (Pl.prodTo (fN F) T)) (leafOf km n M F T nd D) n = 1)) :
    leafOf km n (downM M (j : Int)) F T nd D = leafOf km n M F T nd D ∧ ∃ i, i < n ∧ (downM M (j : Int)).down i = false := by
  obtain ⟨hp, ho⟩ := leaf_occ (km := km) (nd := nd) (D := D) hS ⟨j, hjn, hj⟩
  have h1 := cl_down (C := Pl.prodTo (fN F) T) hj (leafOf km n M F T nd D) n
  have h2 := occB_iff.1 ho
  have h3 : 0 < cl (fun i => !(downM M (j : Int)).down i) (lf M (Pl.prodTo (fN F) T)) (leafOf km n M F T nd D) n := by
    by_cases hl : lf M (Pl.prodTo (fN F) T) j = leafOf km n M F T nd D
    · have : cl (fun i => !M.down i) (lf M (Pl.prodTo (fN F) T)) (leafOf km n M F T nd D) n ≠ 1 := fun e => hne ⟨hl, e⟩
      rw [if_pos ⟨hjn, hl⟩] at h1
      omega
    · rw [if_neg (fun g => hl g.2)] at h1
      omega
  have hup' : ∃ i, i < n ∧ (downM M (j : Int)).down i = false := by
    obtain ⟨i, i1, i2⟩ := Pl.cnt_pos.1 h3
    refine ⟨i, i1, ?_⟩
    simp only [inB, Bool.and_eq_true] at i2
    simpa using i2.1
  refine ⟨?_, hup'⟩
  have hp' := path_less (occ' := occB (fun i => !(downM M (j : Int)).down i) (lf M (Pl.prodTo (fN F) T)) n) (fun k hk => occ_down hj hk) (occB_iff.2 h3) hS.one hp
  have hq := (leaf_occ (km := km) (nd := nd) (D := D) (M := downM M (j : Int)) hS hup').1
  exact hq.unique hp'

/-- Each entry of the shorter list, found in the longer one. -/
theorem rank_entry {wA wB : World} {n : Nat} {M : Mems} {C l j : Nat} {wtd : Bool} {ia wa wo c1 ib wb wo2 c2 : Nat} {idsA idsB : Nat → ByteArray} {nmsA nmsB : Nat → Int} {wsA wsB : Nat → Nat}
    (hj : M.down j = false) (hA : RankIs wA n M C l wtd ia wa wo c1 idsA nmsA wsA) (hB : RankIs wB n (downM M (j : Int)) C l wtd ib wb wo2 c2 idsB nmsB wsB) {q : Nat} (hq : q < c2) :
    ∃ i, i < n ∧ (downM M (j : Int)).down i = false ∧ lf M C i = l ∧ cl (fun i => !(downM M (j : Int)).down i) (lf M C) l i = q ∧
      idsB q = idsA (q + if j < i ∧ lf M C j = l then 1 else 0) ∧ nmsB q = nmsA (q + if j < i ∧ lf M C j = l then 1 else 0) ∧ (wtd = true → wsB q = wsA (q + if j < i ∧ lf M C j = l then 1 else 0)) := by
  have hlen := hB.len
  rw [hlen] at hq
  obtain ⟨i, h1, h2, h3⟩ := Pl.cnt_find hq
  simp only [inB, Bool.and_eq_true, decide_eq_true_iff] at h2
  have hd : (downM M (j : Int)).down i = false := by simpa using h2.1
  have hl : lf M C i = l := h2.2
  obtain ⟨a0, a1, a2⟩ := hA.eq i h1 (down_iff.1 hd).1 hl
  obtain ⟨b0, b1, b2⟩ := hB.eq i h1 hd hl
  have hc : cl (fun i => !(downM M (j : Int)).down i) (lf M C) l i = q := h3
  have hq' : cl (fun i => !M.down i) (lf M C) l i = q + if j < i ∧ lf M C j = l then 1 else 0 := by rw [cl_down hj l i, hc]
  have hc2 : cl (fun i => !(downM M (j : Int)).down i) (lf (downM M (j : Int)) C) l i = q := h3
  rw [hq'] at a0 a1 a2
  rw [hc2] at b0 b1 b2
  refine ⟨i, h1, hd, hl, hc, ?_, ?_, fun e => ?_⟩
  · rw [b0, a0]; rfl
  · rw [b1, a1]; rfl
  · rw [b2 e, a2 e]; rfl

theorem rank_none {wA wB : World} {n : Nat} {M : Mems} {C l j : Nat} {wtd : Bool} {ia wa wo c1 ib wb wo2 c2 : Nat} {idsA idsB : Nat → ByteArray} {nmsA nmsB : Nat → Int} {wsA wsB : Nat → Nat}
    (hj : M.down j = false) (hl : lf M C j ≠ l) (hA : RankIs wA n M C l wtd ia wa wo c1 idsA nmsA wsA) (hB : RankIs wB n (downM M (j : Int)) C l wtd ib wb wo2 c2 idsB nmsB wsB) :
    c2 = c1 ∧ ∀ q, q < c2 → idsB q = idsA q ∧ nmsB q = nmsA q ∧ (wtd = true → wsB q = wsA q) := by
  constructor
  · have h1 := hB.len
    have h2 := hA.len
    rw [cl_down hj l n, if_neg (fun g => hl g.2)] at h2
    rw [h1, h2]; rfl
  · intro q hq
    obtain ⟨i, _, _, _, _, e0, e1, e2⟩ := rank_entry hj hA hB hq
    rw [if_neg (fun g => hl g.2)] at e0 e1 e2
    exact ⟨e0, e1, e2⟩

theorem rank_some {wA wB : World} {n : Nat} {M : Mems} {C l j : Nat} {wtd : Bool} {ia wa wo c1 ib wb wo2 c2 : Nat} {idsA idsB : Nat → ByteArray} {nmsA nmsB : Nat → Int} {wsA wsB : Nat → Nat}
    (hjn : j < n) (hj : M.down j = false) (hl : lf M C j = l) (hA : RankIs wA n M C l wtd ia wa wo c1 idsA nmsA wsA) (hB : RankIs wB n (downM M (j : Int)) C l wtd ib wb wo2 c2 idsB nmsB wsB) :
    c1 = c2 + 1 ∧ cl (fun i => !M.down i) (lf M C) l j < c1 ∧ ∀ q, q < c2 → idsB q = idsA (srcQ (cl (fun i => !M.down i) (lf M C) l j) q) ∧ nmsB q = nmsA (srcQ (cl (fun i => !M.down i) (lf M C) l j) q) ∧ (wtd = true → wsB q = wsA (srcQ (cl (fun i => !M.down i) (lf M C) l j) q)) := by
  refine ⟨?_, ?_, fun q hq => ?_⟩
  · have h1 := hB.len
    have h2 := hA.len
    rw [cl_down hj l n, if_pos ⟨hjn, hl⟩] at h2
    rw [h1, h2]; rfl
  · rw [hA.len]
    exact Pl.cnt_lt hjn (by simp [inB, hj, hl])
  · obtain ⟨i, _, hd, hli, hc, e0, e1, e2⟩ := rank_entry hj hA hB hq
    have hr : cl (fun i => !M.down i) (lf M C) l j = cl (fun i => !(downM M (j : Int)).down i) (lf M C) l j := by
      rw [cl_down hj l j, if_neg (by omega)]; rfl
    have hs : (q + if j < i ∧ lf M C j = l then 1 else 0) = srcQ (cl (fun i => !M.down i) (lf M C) l j) q := by
      unfold srcQ
      rw [hr]
      have hne := (down_iff.1 hd).2
      by_cases hji : j < i
      · have := Pl.cnt_mono (inB (fun i => !(downM M (j : Int)).down i) (lf M C) l) (Nat.le_of_lt hji)
        have h2 : cl (fun i => !(downM M (j : Int)).down i) (lf M C) l j ≤ q := by rw [← hc]; exact this
        rw [if_pos ⟨hji, hl⟩, if_pos h2]
      · have : cl (fun i => !(downM M (j : Int)).down i) (lf M C) l i < cl (fun i => !(downM M (j : Int)).down i) (lf M C) l j := Pl.cnt_lt (by omega) (by simp [inB, hd, hli])
        rw [if_neg (fun g => hji g.1), if_neg (by omega)]; rfl
    rw [hs] at e0 e1 e2
    exact ⟨e0, e1, e2⟩

theorem same_none {w : World} {n : Nat} {M : Mems} {C l j : Nat} {wtd : Bool} {ia wa wo c1 ib wb wo2 c2 : Nat} (wc wc2 : Nat) {idsA idsB : Nat → ByteArray} {nmsA nmsB : Nat → Int} {wsA wsB : Nat → Nat}
    (hn : n ≤ 4096) (hj : M.down j = false) (hl : lf M C j ≠ l) (hA : RankIs w n M C l wtd ia wa wo c1 idsA nmsA wsA) (hB : RankIs w n (downM M (j : Int)) C l wtd ib wb wo2 c2 idsB nmsB wsB) :
    Calls Trym.prog 36 #[.slice (some ⟨ia, 0, none⟩) c1 c1, .slice (some ⟨ia + 1, 0, none⟩) c1 c1, wsOf wtd wa wo c1 wc, .slice (some ⟨ib, 0, none⟩) c2 c2, .slice (some ⟨ib + 1, 0, none⟩) c2 c2, wsOf wtd wb wo2 c2 wc2, .int .i64 (-1)] w fun e w' => e = .returned (.bool true) ∧ Below w.heap.size w w' := by
  obtain ⟨h1, h2⟩ := rank_none hj hl hA hB
  have hc : c1 ≤ 4096 := by rw [hA.len]; exact Nat.le_trans (cl_le _ _ _ _) hn
  cases wtd with
  | true => exact same_none_true c1 c2 ia wa wo wc ib wb wo2 wc2 idsA nmsA wsA wsB idsB nmsB w hc h1 hA.r1 hA.r2 hB.r1 hB.r2 (hA.hw rfl) (hA.hwb rfl) (hB.hw rfl) (hB.hwb rfl) (fun q hq => ⟨(h2 q hq).1, (h2 q hq).2.1, (h2 q hq).2.2 rfl⟩)
  | false => exact same_none_false c1 c2 ia wa wo wc ib wb wo2 wc2 idsA nmsA idsB nmsB w hc h1 hA.r1 hA.r2 hB.r1 hB.r2 (fun q hq => ⟨(h2 q hq).1, (h2 q hq).2.1⟩)

theorem same_some {w : World} {n : Nat} {M : Mems} {C l j : Nat} {wtd : Bool} {ia wa wo c1 ib wb wo2 c2 : Nat} (wc wc2 : Nat) {idsA idsB : Nat → ByteArray} {nmsA nmsB : Nat → Int} {wsA wsB : Nat → Nat}
    (hn : n ≤ 4096) (hjn : j < n) (hj : M.down j = false) (hl : lf M C j = l) (hA : RankIs w n M C l wtd ia wa wo c1 idsA nmsA wsA) (hB : RankIs w n (downM M (j : Int)) C l wtd ib wb wo2 c2 idsB nmsB wsB) :
    Calls Trym.prog 36 #[.slice (some ⟨ia, 0, none⟩) c1 c1, .slice (some ⟨ia + 1, 0, none⟩) c1 c1, wsOf wtd wa wo c1 wc, .slice (some ⟨ib, 0, none⟩) c2 c2, .slice (some ⟨ib + 1, 0, none⟩) c2 c2, wsOf wtd wb wo2 c2 wc2, .int .i64 (cl (fun i => !M.down i) (lf M C) l j : Nat)] w fun e w' => e = .returned (.bool true) ∧ Below w.heap.size w w' := by
  obtain ⟨h1, hr, h2⟩ := rank_some hjn hj hl hA hB
  have hc : c1 ≤ 4096 := by rw [hA.len]; exact Nat.le_trans (cl_le _ _ _ _) hn
  cases wtd with
  | true => exact same_some_true c1 c2 _ ia wa wo wc ib wb wo2 wc2 idsA nmsA wsA wsB idsB nmsB w hc h1 hr hA.r1 hA.r2 hB.r1 hB.r2 (hA.hw rfl) (hA.hwb rfl) (hB.hw rfl) (hB.hwb rfl) (fun q hq => ⟨(h2 q hq).1, (h2 q hq).2.1, (h2 q hq).2.2 rfl⟩)
  | false => exact same_some_false c1 c2 _ ia wa wo wc ib wb wo2 wc2 idsA nmsA idsB nmsB w hc h1 hr hA.r1 hA.r2 hB.r1 hB.r2 (fun q hq => ⟨(h2 q hq).1, (h2 q hq).2.1⟩)
end Go.Proofs.Qxb6600905aMods
