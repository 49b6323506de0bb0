/-
  The small functions of the roads, each by its contract.
-/
import Derived.Test.Qxb6600905aModsBase
namespace Go.Proofs.Qxb6600905aMods
open Go.RowKit

theorem ret_bool {a b : Bool} (h : a = b) : Ending.returned (.bool a) = .returned (.bool b) := by rw [h]
theorem ret_int {k : IntKind} {a b : Int} (h : a = b) : Ending.returned (.int k a) = .returned (.int k b) := by rw [h]

set_option maxHeartbeats 400000 in
theorem score_calls (km m : Int) (w : World) :
    Calls Trym.prog 45 #[.int .u64 km, .int .u64 m] w fun e w' => e = .returned (.int .u64 (sc km m)) ∧ w' = w := by
  go_enter Trym.func45, Trym.ntmps45
  go_wp2
  go_ret
  exact ⟨rfl, rfl⟩

set_option maxHeartbeats 400000 in
theorem v1_calls (km m : Int) (w : World) :
    Calls Trym.prog 12 #[.int .u64 km, .int .u64 m] w fun e w' => e = .returned (.int .u64 (sc km m)) ∧ w' = w := by
  go_enter Trym.func12, Trym.ntmps12
  go_wp2
  go_ret
  exact ⟨rfl, rfl⟩

theorem or_not (o : Option Ordering) : (o == some Ordering.eq || o != some Ordering.eq) = true := by
  simp only [bne]; cases (o == some Ordering.eq) <;> rfl

set_option maxHeartbeats 400000 in
theorem same_calls (x : Nat) (w : World) :
    Calls Trym.prog 25 #[.float .f64 x, .float .f64 x] w fun e w' => e = .returned (.bool true) ∧ w' = w := by
  go_enter Trym.func25, Trym.ntmps25
  go_wp2
  · go_ret
    exact ⟨rfl, rfl⟩
  · go_ret
    exact ⟨ret_bool (or_not _), rfl⟩

set_option maxHeartbeats 400000 in
theorem dig_calls (a : Option Addr) (nd cap b off : Nat) (D : Nat → Int) (k : Nat) (w : World) (hnd : nd ≤ 1048576) (hk : k ≤ 1048576) (h : IsRow w .u64 a nd b off D) :
    Calls Trym.prog 38 #[.slice a nd cap, .int .i64 k] w fun e w' => e = .returned (.int .u64 (dig nd D k)) ∧ w' = w := by
  by_cases h0 : nd = 0
  · subst h0
    go_enter Trym.func38, Trym.ntmps38
    go_wp2
    go_ret
    exact ⟨rfl, rfl⟩
  · have hr : k % nd < nd := Nat.mod_lt _ (by omega)
    have ha := h.at_ hr
    subst ha
    have hc := h.cell (k % nd) hr
    have hz : ((nd : Int) == 0) = false := by simp; omega
    have HD : Hid (dig nd D k = D (k % nd)) := if_neg h0
    clear h
    go_enter Trym.func38, Trym.ntmps38
    go_wp2
    go_ret
    exact ⟨ret_int HD.out.symm, rfl⟩

set_option maxHeartbeats 400000 in
theorem slots_calls (a : Option Addr) (n cap b off : Nat) (M : Mems) (w : World) (hn : n ≤ 1048576) (h : IsMems w a n b off M) :
    Calls Trym.prog 18 #[.slice a n cap] w fun e w' => ((e = .returned (.bool true) ∧ ∀ i, i < n → 0 ≤ M.slot i) ∨ e = .returned (.bool false)) ∧ w' = w := by
  go_enter Trym.func18, Trym.ntmps18
  go_wp2
  go_loop [3] (fun i => ∃ k : Nat, k ≤ n ∧ i = .int .i64 k ∧ ∀ j, j < k → 0 ≤ M.slot j) (fun i => n - (intOf i).toNat)
  case atStart => exact ⟨0, Nat.zero_le _, rfl, fun j hj => by omega⟩
  case round =>
    obtain ⟨k, hk, rfl, hj⟩ := hrel
    have HJ := hid_mk hj
    clear hj
    by_cases hlt : k < n
    · have ha := h.at_ hlt
      subst ha
      have hc := h.slot k hlt
      clear h
      by_cases hs : 0 ≤ M.slot k
      · go_wp2
        go_round
        case rel => exact ⟨k + 1, by omega, by go_num, fun j hj => by by_cases e : j = k; (subst e; exact hs); exact HJ.out j (by omega)⟩
        case measure => simp [intOf]; omega
      · go_wp2
        go_ret
        exact ⟨Or.inr rfl, rfl⟩
    · clear h
      go_wp2
      go_ret
      exact ⟨Or.inl ⟨rfl, fun i hi => HJ.out i (by omega)⟩, rfl⟩

/-- Up: not marked down, and not the one that is marked down too. -/
def upB (M : Mems) (j : Int) (i : Nat) : Bool := !M.down i && (i : Int) != j

set_option maxHeartbeats 400000 in
theorem count_calls (a : Option Addr) (n cap b off : Nat) (M : Mems) (j : Int) (w : World) (hn : n ≤ 1048576) (h : IsMems w a n b off M) :
    Calls Trym.prog 24 #[.slice a n cap, .int .i64 j] w fun e w' => e = .returned (.int .i64 (Pl.cnt (upB M j) n)) ∧ w' = w := by
  go_enter Trym.func24, Trym.ntmps24
  go_wp2
  go_loop [5, 6] (fun c i => ∃ k : Nat, k ≤ n ∧ i = .int .i64 k ∧ c = .int .i64 (Pl.cnt (upB M j) k)) (fun _ i => n - (intOf i).toNat)
  case atStart => exact ⟨0, Nat.zero_le _, rfl, rfl⟩
  case round =>
    obtain ⟨k, hk, rfl, rfl⟩ := hrel
    have hcl := Pl.cnt_le (upB M j) k
    by_cases hlt : k < n
    · have ha := h.at_ hlt
      subst ha
      have hc := h.down k hlt
      clear h
      cases hd : M.down k with
      | true =>
        have HN := hid_mk (Pl.cnt_no (p := upB M j) (k := k) (by simp [upB, hd]))
        rw [hd] at hc
        clear hd
        go_wp2
        go_round
        case rel => exact ⟨k + 1, by omega, by go_num, by rw [HN.out]⟩
        case measure => simp [intOf]; omega
      | false =>
        rw [hd] at hc
        by_cases hj : ((k : Int) != j) = true
        · have HN := hid_mk (Pl.cnt_yes (p := upB M j) (k := k) (by simp [upB, hd]; simpa using hj))
          clear hd
          go_wp2
          go_round
          case rel => exact ⟨k + 1, by omega, by go_num, by rw [HN.out]; go_num⟩
          case measure => simp [intOf]; omega
        · have hj' : ((k : Int) != j) = false := by simpa using hj
          have HN := hid_mk (Pl.cnt_no (p := upB M j) (k := k) (by simp [upB, hd]; simpa using hj'))
          clear hd hj
          go_wp2
          go_round
          case rel => exact ⟨k + 1, by omega, by go_num, by rw [HN.out]⟩
          case measure => simp [intOf]; omega
    · obtain rfl : n = k := by omega
      clear h
      go_wp2
      go_ret
      exact ⟨rfl, rfl⟩

/-- The leaf cluster of a member. -/
def lf (M : Mems) (C i : Nat) : Nat := (M.slot i % (C : Int)).toNat

theorem lf_eq {M : Mems} {C i : Nat} (hC : 0 < C) : M.slot i % (C : Int) = (lf M C i : Int) := by
  have := Int.emod_nonneg (M.slot i) (show (C : Int) ≠ 0 by omega)
  unfold lf; omega

theorem lf_lt {M : Mems} {C i : Nat} (hC : 0 < C) : lf M C i < C := by
  have := Int.emod_lt_of_pos (M.slot i) (show (0 : Int) < (C : Int) by omega)
  have := Int.emod_nonneg (M.slot i) (show (C : Int) ≠ 0 by omega)
  unfold lf; omega

/-- The members up of leaf cluster 'l'. -/
def inB (up : Nat → Bool) (lfn : Nat → Nat) (l i : Nat) : Bool := up i && decide (lfn i = l)

set_option maxHeartbeats 400000 in
theorem upin_calls (a : Option Addr) (n cap b off : Nat) (M : Mems) (C l : Nat) (w : World) (hn : n ≤ 1048576) (hC : 0 < C) (hC2 : C ≤ 4096) (hs : ∀ i, i < n → 0 ≤ M.slot i)
    (hs2 : ∀ i, i < n → M.slot i ≤ 9223372036854775807) (h : IsMems w a n b off M) :
    Calls Trym.prog 34 #[.slice a n cap, .int .i64 C, .int .i64 l] w fun e w' => e = .returned (.int .i64 (Pl.cnt (inB (fun i => !M.down i) (lf M C) l) n)) ∧ w' = w := by
  go_enter Trym.func34, Trym.ntmps34
  go_wp2
  go_loop [7, 8] (fun c i => ∃ k : Nat, k ≤ n ∧ i = .int .i64 k ∧ c = .int .i64 (Pl.cnt (inB (fun i => !M.down i) (lf M C) l) k)) (fun _ i => n - (intOf i).toNat)
  case atStart => exact ⟨0, Nat.zero_le _, rfl, rfl⟩
  case round =>
    obtain ⟨k, hk, rfl, rfl⟩ := hrel
    have hcl := Pl.cnt_le (inB (fun i => !M.down i) (lf M C) l) k
    by_cases hlt : k < n
    · have ha := h.at_ hlt
      subst ha
      have hc := h.down k hlt
      have hsl := h.slot k hlt
      have hs0 := hs k hlt
      have hs1 := hs2 k hlt
      have hm := lf_eq (M := M) (i := k) hC
      clear h hs hs2
      cases hd : M.down k with
      | true =>
        have HN := hid_mk (Pl.cnt_no (p := inB (fun i => !M.down i) (lf M C) l) (k := k) (by simp [inB, hd]))
        rw [hd] at hc
        clear hd hm
        go_wp2
        go_round
        case rel => exact ⟨k + 1, by omega, by go_num, by rw [HN.out]⟩
        case measure => simp [intOf]; omega
      | false =>
        rw [hd] at hc
        by_cases hj : lf M C k = l
        · have HN := hid_mk (Pl.cnt_yes (p := inB (fun i => !M.down i) (lf M C) l) (k := k) (by simp [inB, hd, hj]))
          rw [hj] at hm
          clear hd hj
          go_wp2
          go_round
          case rel => exact ⟨k + 1, by omega, by go_num, by rw [HN.out]; go_num⟩
          case measure => simp [intOf]; omega
        · have HN := hid_mk (Pl.cnt_no (p := inB (fun i => !M.down i) (lf M C) l) (k := k) (by simp [inB, hd, hj]))
          have hj' : (((lf M C k : Nat) : Int) == (l : Int)) = false := by simp; omega
          generalize lf M C k = z at hm hj'
          clear hd hj
          go_wp2
          go_round
          case rel => exact ⟨k + 1, by omega, by go_num, by rw [HN.out]⟩
          case measure => simp [intOf]; omega
    · obtain rfl : n = k := by omega
      clear h hs hs2
      go_wp2
      go_ret
      exact ⟨rfl, rfl⟩
end Go.Proofs.Qxb6600905aMods
