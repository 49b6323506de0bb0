/-
  highest: the first of the best children that are live; the plain function that it computes, and its walk.
-/
import Derived.Test.Qxb6600905aModsDesc
import Derived.Test.Qxb6600905aModsRowsOf
import Derived.BigQuiet
import Derived.WalkSmall
import Derived.Deep.QuietTactic
namespace Go.Proofs.Qxb6600905aMods
open Go.RowKit

/-- The best of the first 'k', and its score (0 where none scores more). -/
def pick (o : Nat → Bool) (s : Nat → Int) : Nat → Nat × Int
  | 0 => (0, 0)
  | k + 1 => if o k = true ∧ (pick o s k).2 < s k then (k, s k) else pick o s k

/-- The first that meets 'o', from 'lo' on, 'j' looked at; else 'd'. -/
def fstFrom (o : Nat → Bool) (d : Nat) (lo : Nat) : Nat → Nat
  | 0 => d
  | j + 1 => if o lo = true then lo else fstFrom o d (lo + 1) j

/-- What highest answers. -/
def hi (o : Nat → Bool) (s : Nat → Int) (n : Nat) : Nat := if (pick o s n).2 = 0 then fstFrom o (pick o s n).1 0 n else (pick o s n).1

variable {o : Nat → Bool} {s : Nat → Int}

theorem pick_yes {k : Nat} (h : o k = true) (h2 : (pick o s k).2 < s k) : pick o s (k + 1) = (k, s k) := if_pos ⟨h, h2⟩
theorem pick_less {k : Nat} (h2 : ¬ (pick o s k).2 < s k) : pick o s (k + 1) = pick o s k := if_neg (fun h => h2 h.2)
theorem pick_dead {k : Nat} (h : o k = false) : pick o s (k + 1) = pick o s k := if_neg (fun g => by rw [h] at g; cases g.1)

theorem pick_is (hs : ∀ i, 0 ≤ s i) : ∀ k, ((pick o s k).2 = 0 ∧ (pick o s k).1 = 0 ∧ ∀ e, e < k → o e = true → s e = 0) ∨
    (0 < (pick o s k).2 ∧ (pick o s k).1 < k ∧ o (pick o s k).1 = true ∧ (pick o s k).2 = s (pick o s k).1 ∧ (∀ e, e < k → o e = true → s e ≤ s (pick o s k).1) ∧ ∀ e, e < (pick o s k).1 → o e = true → s e < s (pick o s k).1)
  | 0 => .inl ⟨rfl, rfl, fun e he => by omega⟩
  | k + 1 => by
    have ih := pick_is hs k
    by_cases h : o k = true
    · by_cases h2 : (pick o s k).2 < s k
      · rw [pick_yes h h2]
        right
        have h0 : 0 < s k := by
          rcases ih with ⟨e, _⟩ | ⟨e, _⟩ <;> omega
        have hlt : ∀ e, e < k → o e = true → s e < s k := by
          intro e he ho
          rcases ih with ⟨_, _, q⟩ | ⟨q0, _, _, q1, q2, _⟩
          · rw [q e he ho]; exact h0
          · have := q2 e he ho; omega
        refine ⟨h0, Nat.lt_succ_self _, h, rfl, fun e he ho => ?_, hlt⟩
        by_cases e1 : e = k
        · rw [e1]; exact Int.le_refl _
        · exact Int.le_of_lt (hlt e (by omega) ho)
      · rw [pick_less h2]
        rcases ih with ⟨p0, p1, q⟩ | ⟨q0, q1, q2, q3, q4, q5⟩
        · left
          refine ⟨p0, p1, fun e he ho => ?_⟩
          by_cases e1 : e = k
          · subst e1; have := hs e; omega
          · exact q e (by omega) ho
        · right
          refine ⟨q0, by omega, q2, q3, fun e he ho => ?_, q5⟩
          by_cases e1 : e = k
          · subst e1; omega
          · exact q4 e (by omega) ho
    · have hd : o k = false := by cases hh : o k; rfl; exact absurd hh h
      rw [pick_dead hd]
      rcases ih with ⟨p0, p1, q⟩ | ⟨q0, q1, q2, q3, q4, q5⟩
      · left
        refine ⟨p0, p1, fun e he ho => ?_⟩
        by_cases e1 : e = k
        · subst e1; rw [hd] at ho; cases ho
        · exact q e (by omega) ho
      · right
        refine ⟨q0, by omega, q2, q3, fun e he ho => ?_, q5⟩
        by_cases e1 : e = k
        · subst e1; rw [hd] at ho; cases ho
        · exact q4 e (by omega) ho

theorem fstFrom_is (d : Nat) : ∀ (j lo : Nat), (fstFrom o d lo j = d ∧ ∀ e, lo ≤ e → e < lo + j → o e = false) ∨ (lo ≤ fstFrom o d lo j ∧ fstFrom o d lo j < lo + j ∧ o (fstFrom o d lo j) = true ∧ ∀ e, lo ≤ e → e < fstFrom o d lo j → o e = false)
  | 0, lo => .inl ⟨rfl, fun e h1 h2 => by omega⟩
  | j + 1, lo => by
    rw [fstFrom]
    by_cases h : o lo = true
    · rw [if_pos h]; exact .inr ⟨Nat.le_refl _, by omega, h, fun e h1 h2 => by omega⟩
    · have hd : o lo = false := by cases hh : o lo; rfl; exact absurd hh h
      rw [if_neg h]
      rcases fstFrom_is d j (lo + 1) with ⟨p, q⟩ | ⟨p0, p1, p2, p3⟩
      · refine .inl ⟨p, fun e h1 h2 => ?_⟩
        by_cases e1 : e = lo
        · subst e1; exact hd
        · exact q e (by omega) (by omega)
      · refine .inr ⟨by omega, by omega, p2, fun e h1 h2 => ?_⟩
        by_cases e1 : e = lo
        · subst e1; exact hd
        · exact p3 e (by omega) h2

theorem hi_best (hs : ∀ i, 0 ≤ s i) {n : Nat} (hex : ∃ e, e < n ∧ o e = true) : Best o s n (hi o s n) := by
  obtain ⟨e0, he0, ho0⟩ := hex
  unfold hi
  rcases pick_is (o := o) hs n with ⟨p0, p1, q⟩ | ⟨q0, q1, q2, q3, q4, q5⟩
  · rw [if_pos p0]
    rcases fstFrom_is (o := o) (pick o s n).1 n 0 with ⟨_, r⟩ | ⟨_, r1, r2, r3⟩
    · have := r e0 (by omega) (by omega); rw [ho0] at this; cases this
    · refine ⟨by omega, r2, fun e he ho => ?_, fun e he ho => ?_⟩
      · rw [q e he ho, q _ (by omega) r2]; exact Int.le_refl _
      · have := r3 e (by omega) he; rw [ho] at this; cases this
  · rw [if_neg (by omega)]
    exact ⟨q1, q2, q4, q5⟩

theorem hi_lt (hs : ∀ i, 0 ≤ s i) {n : Nat} (hn : 1 ≤ n) : hi o s n < n := by
  unfold hi
  rcases pick_is (o := o) hs n with ⟨p0, p1, q⟩ | ⟨q0, q1, q2, q3, q4, q5⟩
  · rw [if_pos p0]
    rcases fstFrom_is (o := o) (pick o s n).1 n 0 with ⟨r0, r⟩ | ⟨_, r1, r2, r3⟩
    · rw [r0, p1]; omega
    · omega
  · rw [if_neg (by omega)]; exact q1

theorem pick_le (hs : ∀ i, 0 ≤ s i) (k : Nat) : 0 ≤ (pick o s k).2 := by
  rcases pick_is (o := o) hs k with ⟨p0, _⟩ | ⟨q0, _⟩ <;> omega

theorem liveV_one {b : Bool} (h : b = true) : liveV b = 18446744073709551615 := by rw [h]; rfl
theorem liveV_zero {b : Bool} (h : b = false) : liveV b = 0 := by rw [h]; rfl

set_option maxHeartbeats 1000000 in
set_option maxRecDepth 100000 in
theorem highest_calls (km : Int) (f vb lb base vcap lcap : Nat) (V : Nat → Int) (o : Nat → Bool) (w : World) (hf : 1 ≤ f) (hf2 : f ≤ 4096) (hc : f ≤ lcap) (hc2 : lcap ≤ 4096)
    (hv : ∀ i, i < f → w.cell? ⟨vb, base + i, none⟩ = some (.int .u64 (V i))) (hl : ∀ i, i < f → w.cell? ⟨lb, base + i, none⟩ = some (.int .u64 (liveV (o i)))) :
    Calls Trym.prog 37 #[.int .u64 km, .slice (some ⟨vb, base, none⟩) f vcap, .slice (some ⟨lb, base, none⟩) f lcap] w fun e w' => e = .returned (.int .i64 (hi o (fun i => sc km (V i)) f : Nat)) ∧ ∃ m, w' = w.drewN m := by
  have hs : ∀ i, 0 ≤ sc km (V i) := fun i => (sc_bound km (V i)).1
  go_enter Trym.func37, Trym.ntmps37
  go_wp2
  go_loopw [7, 8, 20] (fun b z i wr => ∃ k m p : Nat, ∃ q : Int, k ≤ f ∧ i = .int .i64 k ∧ b = .int .i64 p ∧ z = .int .u64 q ∧ (p, q) = pick o (fun i => sc km (V i)) k ∧ wr = w.drewN m) (fun _ _ i _ => f - (intOf i).toNat)
  case atStart => exact ⟨0, 0, 0, 0, Nat.zero_le _, rfl, rfl, rfl, rfl, rfl⟩
  case round =>
    obtain ⟨k, m, p, q, hk, rfl, rfl, rfl, hpq, hw⟩ := hrel
    have hq0 : 0 ≤ q := by have := pick_le (o := o) hs k; rw [← hpq] at this; exact this
    by_cases hlt : k < f
    · have c0 : wr.cell? ⟨vb, base + k, none⟩ = some (.int .u64 (V k)) := by rw [hw]; exact hv k hlt
      have c1 : wr.cell? ⟨lb, base + k, none⟩ = some (.int .u64 (liveV (o k))) := by rw [hw]; exact hl k hlt
      have HW := hid_mk hw
      cases ho : o k with
      | true =>
        rw [ho, liveV_one rfl] at c1
        have ha := and_ones (sc km (V k)) (sc_bound km (V k)).1 (sc_bound km (V k)).2
        have hb := sc_bound km (V k)
        by_cases hgt : q < sc km (V k)
        · have HP := hid_mk (pick_yes (s := fun i => sc km (V i)) ho (by rw [← hpq]; exact hgt))
          generalize hx : sc km (V k) = x at ha hb hgt
          clear hw hv hl hpq hs ho
          go_wp2
          go_quiet ((go_at_call 45; exact Calls.quiet_of_same (score_calls _ _ _)))
          rw [hx]
          go_wp2
          go_roundw
          case rel => exact ⟨k + 1, m + nq, k, x, by omega, by go_num, rfl, rfl, by rw [HP.out, hx], by rw [HW.out, World.drewN_drewN]⟩
          case measure => simp [intOf]; omega
        · have HP := hid_mk (hpq.trans (pick_less (o := o) (s := fun i => sc km (V i)) (k := k) (by rw [← hpq]; exact hgt)).symm)
          generalize hx : sc km (V k) = x at ha hb hgt
          clear hw hv hl hpq hs ho
          go_wp2
          go_quiet ((go_at_call 45; exact Calls.quiet_of_same (score_calls _ _ _)))
          rw [hx]
          go_wp2
          go_roundw
          case rel => exact ⟨k + 1, m + nq, p, q, by omega, by go_num, rfl, rfl, HP.out, by rw [HW.out, World.drewN_drewN]⟩
          case measure => simp [intOf]; omega
      | false =>
        rw [ho, liveV_zero rfl] at c1
        have ha := and_none (sc km (V k))
        have HP := hid_mk (hpq.trans (pick_dead (o := o) (s := fun i => sc km (V i)) (k := k) ho).symm)
        generalize hx : sc km (V k) = x at ha
        clear hw hv hl hpq hs ho
        go_wp2
        go_quiet ((go_at_call 45; exact Calls.quiet_of_same (score_calls _ _ _)))
        rw [hx]
        go_wp2
        go_roundw
        case rel => exact ⟨k + 1, m + nq, p, q, by omega, by go_num, rfl, rfl, HP.out, by rw [HW.out, World.drewN_drewN]⟩
        case measure => simp [intOf]; omega
    · obtain rfl : f = k := by omega
      have hl' : ∀ i, i < f → wr.cell? ⟨lb, base + i, none⟩ = some (.int .u64 (liveV (o i))) := fun i hi => by rw [hw]; exact hl i hi
      have HW := hid_mk hw
      by_cases hz : q = 0
      · have HH := hid_mk (show hi o (fun i => sc km (V i)) f = fstFrom o p 0 f by unfold hi; rw [← hpq, if_pos hz])
        clear hpq hs hv hl hw
        subst hz
        go_wp2
        go_loopw [43] (fun i wx => ∃ d : Nat, d ≤ f ∧ i = .int .i64 d ∧ wx = wr ∧ fstFrom o p 0 f = fstFrom o p d (f - d)) (fun i _ => f - (intOf i).toNat)
        case atStart => exact ⟨0, Nat.zero_le _, rfl, rfl, rfl⟩
        case round =>
          obtain ⟨d, hd, rfl, hwx, hfs⟩ := hrel
          subst hwx
          by_cases hdl : d < f
          · have c1 := hl' d hdl
            obtain ⟨j, hj⟩ : ∃ j, f - d = j + 1 := ⟨f - d - 1, by omega⟩
            have hj' : f - (d + 1) = j := by omega
            clear hl'
            cases ho : o d with
            | true =>
              rw [ho, liveV_one rfl] at c1
              have HR := hid_mk (show fstFrom o p 0 f = d by rw [hfs, hj, fstFrom, if_pos ho])
              clear hfs ho
              go_wp2
              go_ret
              exact ⟨by rw [HH.out, HR.out]; rfl, m, HW.out⟩
            | false =>
              rw [ho, liveV_zero rfl] at c1
              have HR := hid_mk (show fstFrom o p 0 f = fstFrom o p (d + 1) (f - (d + 1)) by rw [hfs, hj, hj', fstFrom, ho]; rfl)
              clear hfs ho
              go_wp2
              go_roundw
              case rel => exact ⟨d + 1, by omega, by go_num, trivial, HR.out⟩
              case measure => simp [intOf]; omega
          · obtain rfl : f = d := by omega
            have HR := hid_mk (show fstFrom o p 0 f = p by rw [hfs, Nat.sub_self]; rfl)
            clear hl' hfs
            go_wp2
            go_ret
            exact ⟨by rw [HH.out, HR.out]; rfl, m, HW.out⟩
      · have HH := hid_mk (show hi o (fun i => sc km (V i)) f = p by unfold hi; rw [← hpq, if_neg hz])
        clear hpq hs hv hl hw hl'
        go_wp2
        go_ret
        exact ⟨by rw [HH.out]; rfl, m, HW.out⟩
end Go.Proofs.Qxb6600905aMods
