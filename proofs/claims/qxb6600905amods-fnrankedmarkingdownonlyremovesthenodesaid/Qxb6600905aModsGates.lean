/-
  The gates at the head of each law: the bounds on the input, the shape of the tiers.
-/
import Derived.Test.Qxb6600905aModsSmall
namespace Go.Proofs.Qxb6600905aMods
open Go.RowKit

set_option maxHeartbeats 1000000 in
theorem bytes15 (a : Option Addr) (n cap b off : Nat) (M : Mems) (v1 : Option Addr) (n1 c1 : Nat) (wtd : Bool) (w : World) (hn : n ≤ 9223372036854775807) (hn1 : n1 ≤ 9223372036854775807) (hM : MemsOk n M) (h : IsMems w a n b off M) :
    Calls Trym.prog 15 #[.slice a n cap, .slice v1 n1 c1, .bool wtd] w fun e w' => (e = .returned (.bool true) ∨ e = .returned (.bool false)) ∧ w' = w := by
  by_cases hbig : n ≤ 1048576
  · go_enter Trym.func15, Trym.ntmps15
    go_wp2
    go_loop [7, 8] (fun z i => ∃ k m : Nat, k ≤ n ∧ m ≤ 1048576 ∧ i = .int .i64 k ∧ z = .int .i64 m) (fun _ i => n - (intOf i).toNat)
    case atStart => exact ⟨0, n, Nat.zero_le _, hbig, rfl, rfl⟩
    case round =>
      obtain ⟨k, m, hk, hm, rfl, rfl⟩ := hrel
      by_cases hlt : k < n
      · have ha := h.at_ hlt
        subst ha
        have hc := h.id k hlt
        have hz := hM.id k hlt
        clear h hM
        by_cases h1 : (M.id k).size ≤ 1048576
        · by_cases h2 : m + (M.id k).size ≤ 1048576
          · go_wp2
            go_round
            case rel => exact ⟨k + 1, m + (M.id k).size, by omega, h2, by go_num, by go_num⟩
            case measure => simp [intOf]; omega
          · go_wp2
            go_ret
            exact ⟨Or.inr rfl, rfl⟩
        · go_wp2
          go_ret
          exact ⟨Or.inr rfl, rfl⟩
      · clear h hM
        by_cases h1 : n1 ≤ 1048576
        · by_cases h2 : m + n1 ≤ 1048576
          · go_wp2
            go_ret
            exact ⟨Or.inl rfl, rfl⟩
          · go_wp2
            go_ret
            exact ⟨Or.inr rfl, rfl⟩
        · go_wp2
          go_ret
          exact ⟨Or.inr rfl, rfl⟩
  · clear h hM
    go_enter Trym.func15, Trym.ntmps15
    go_wp2
    go_ret
    exact ⟨Or.inr rfl, rfl⟩

set_option maxHeartbeats 1000000 in
theorem bytes29 (a : Option Addr) (n cap b off : Nat) (M : Mems) (v1 : Option Addr) (n1 c1 : Nat) (v2 : Option Addr) (n2 c2 : Nat) (wtd : Bool) (km : Int) (w : World) (hn : n ≤ 9223372036854775807) (hn1 : n1 ≤ 9223372036854775807) (hn2 : n2 ≤ 9223372036854775807) (hM : MemsOk n M) (h : IsMems w a n b off M) :
    Calls Trym.prog 29 #[.slice a n cap, .slice v1 n1 c1, .slice v2 n2 c2, .bool wtd, .int .u64 km] w fun e w' => (e = .returned (.bool true) ∨ e = .returned (.bool false)) ∧ w' = w := by
  by_cases hbig : n ≤ 1048576
  · go_enter Trym.func29, Trym.ntmps29
    go_wp2
    go_loop [11, 12] (fun z i => ∃ k m : Nat, k ≤ n ∧ m ≤ 1048576 ∧ i = .int .i64 k ∧ z = .int .i64 m) (fun _ i => n - (intOf i).toNat)
    case atStart => exact ⟨0, n, Nat.zero_le _, hbig, rfl, rfl⟩
    case round =>
      obtain ⟨k, m, hk, hm, rfl, rfl⟩ := hrel
      by_cases hlt : k < n
      · have ha := h.at_ hlt
        subst ha
        have hc := h.id k hlt
        have hz := hM.id k hlt
        clear h hM
        by_cases h1 : (M.id k).size ≤ 1048576
        · by_cases h2 : m + (M.id k).size ≤ 1048576
          · go_wp2
            go_round
            case rel => exact ⟨k + 1, m + (M.id k).size, by omega, h2, by go_num, by go_num⟩
            case measure => simp [intOf]; omega
          · go_wp2
            go_ret
            exact ⟨Or.inr rfl, rfl⟩
        · go_wp2
          go_ret
          exact ⟨Or.inr rfl, rfl⟩
      · clear h hM
        by_cases h1 : n1 ≤ 1048576
        · by_cases h2 : m + n1 ≤ 1048576
          · by_cases h3 : n2 ≤ 1048576
            · by_cases h4 : m + n1 + n2 ≤ 1048576
              · go_wp2
                go_ret
                exact ⟨Or.inl rfl, rfl⟩
              · go_wp2
                go_ret
                exact ⟨Or.inr rfl, rfl⟩
            · go_wp2
              go_ret
              exact ⟨Or.inr rfl, rfl⟩
          · go_wp2
            go_ret
            exact ⟨Or.inr rfl, rfl⟩
        · go_wp2
          go_ret
          exact ⟨Or.inr rfl, rfl⟩
  · clear h hM
    go_enter Trym.func29, Trym.ntmps29
    go_wp2
    go_ret
    exact ⟨Or.inr rfl, rfl⟩

set_option maxHeartbeats 1000000 in
theorem bytes33 (a : Option Addr) (n cap b off : Nat) (M : Mems) (v1 : Option Addr) (n1 c1 : Nat) (v2 : Option Addr) (n2 c2 : Nat) (wtd : Bool) (km j : Int) (w : World) (hn : n ≤ 9223372036854775807) (hn1 : n1 ≤ 9223372036854775807) (hn2 : n2 ≤ 9223372036854775807) (hM : MemsOk n M) (h : IsMems w a n b off M) :
    Calls Trym.prog 33 #[.slice a n cap, .slice v1 n1 c1, .slice v2 n2 c2, .bool wtd, .int .u64 km, .int .i64 j] w fun e w' => (e = .returned (.bool true) ∨ e = .returned (.bool false)) ∧ w' = w := by
  by_cases hbig : n ≤ 1048576
  · go_enter Trym.func33, Trym.ntmps33
    go_wp2
    go_loop [13, 14] (fun z i => ∃ k m : Nat, k ≤ n ∧ m ≤ 1048576 ∧ i = .int .i64 k ∧ z = .int .i64 m) (fun _ i => n - (intOf i).toNat)
    case atStart => exact ⟨0, n, Nat.zero_le _, hbig, rfl, rfl⟩
    case round =>
      obtain ⟨k, m, hk, hm, rfl, rfl⟩ := hrel
      by_cases hlt : k < n
      · have ha := h.at_ hlt
        subst ha
        have hc := h.id k hlt
        have hz := hM.id k hlt
        clear h hM
        by_cases h1 : (M.id k).size ≤ 1048576
        · by_cases h2 : m + (M.id k).size ≤ 1048576
          · go_wp2
            go_round
            case rel => exact ⟨k + 1, m + (M.id k).size, by omega, h2, by go_num, by go_num⟩
            case measure => simp [intOf]; omega
          · go_wp2
            go_ret
            exact ⟨Or.inr rfl, rfl⟩
        · go_wp2
          go_ret
          exact ⟨Or.inr rfl, rfl⟩
      · clear h hM
        by_cases h1 : n1 ≤ 1048576
        · by_cases h2 : m + n1 ≤ 1048576
          · by_cases h3 : n2 ≤ 1048576
            · by_cases h4 : m + n1 + n2 ≤ 1048576
              · go_wp2
                go_ret
                exact ⟨Or.inl rfl, rfl⟩
              · go_wp2
                go_ret
                exact ⟨Or.inr rfl, rfl⟩
            · go_wp2
              go_ret
              exact ⟨Or.inr rfl, rfl⟩
          · go_wp2
            go_ret
            exact ⟨Or.inr rfl, rfl⟩
        · go_wp2
          go_ret
          exact ⟨Or.inr rfl, rfl⟩
  · clear h hM
    go_enter Trym.func33, Trym.ntmps33
    go_wp2
    go_ret
    exact ⟨Or.inr rfl, rfl⟩

set_option maxHeartbeats 1000000 in
theorem input_calls (a : Option Addr) (n cap b off : Nat) (M : Mems) (nf nd : Nat) (w : World) (hn : n ≤ 9223372036854775807) (hf : nf ≤ 9223372036854775807) (hd : nd ≤ 9223372036854775807) (h : IsMems w a n b off M) :
    Calls Trym.prog 16 #[.slice a n cap, .int .i64 nf, .int .i64 nd] w fun e w' => (e = .returned (.bool true) ∨ e = .returned (.bool false)) ∧ w' = w := by
  by_cases g1 : nf ≤ 131072
  case neg =>
    clear h
    go_enter Trym.func16, Trym.ntmps16
    go_wp2
    go_ret
    exact ⟨Or.inr rfl, rfl⟩
  by_cases g2 : nd ≤ 131072
  case neg =>
    clear h
    go_enter Trym.func16, Trym.ntmps16
    go_wp2
    go_ret
    exact ⟨Or.inr rfl, rfl⟩
  by_cases g3 : n ≤ 21845
  case neg =>
    clear h
    go_enter Trym.func16, Trym.ntmps16
    go_wp2
    go_ret
    exact ⟨Or.inr rfl, rfl⟩
  by_cases g4 : 8 * nf + 8 * nd ≤ 1048576
  case neg =>
    clear h
    go_enter Trym.func16, Trym.ntmps16
    go_wp2
    go_ret
    exact ⟨Or.inr rfl, rfl⟩
  go_enter Trym.func16, Trym.ntmps16
  go_wp2
  go_loop [7, 8] (fun z i => ∃ (k : Nat) (m : Int), k ≤ n ∧ i = .int .i64 k ∧ z = .int .i64 m) (fun _ i => n - (intOf i).toNat)
  case atStart => exact ⟨0, _, Nat.zero_le _, rfl, rfl⟩
  case round =>
    obtain ⟨k, m, hk, rfl, rfl⟩ := hrel
    by_cases hlt : k < n
    · have ha := h.at_ hlt
      subst ha
      have hc := h.id k hlt
      clear h
      go_wp2
      · go_ret
        exact ⟨Or.inr rfl, rfl⟩
      · go_round
        case rel => exact ⟨k + 1, _, by omega, by go_num, rfl⟩
        case measure => simp [intOf]; omega
    · clear h
      go_wp2
      go_ret
      exact ⟨Or.inl rfl, rfl⟩

/-- The fan-outs as natural numbers. -/
def fN (F : Nat → Int) (i : Nat) : Nat := (F i).toNat

/-- A shape that the laws speak of. -/
structure ShapeOk (F : Nat → Int) (T : Nat) : Prop where
  pos : 1 ≤ T
  le : T ≤ 12
  eq : ∀ i, i < T → F i = (fN F i : Int)
  one : ∀ i, i < T → 1 ≤ fN F i
  prod : Pl.prodTo (fN F) T ≤ 4096

theorem mul_bound {p x : Nat} (hp : p ≤ 4096) (hx : x ≤ 4096) : p * x ≤ 16777216 := Nat.le_trans (Nat.mul_le_mul hp hx) (by decide)

theorem mul_boundZ {p x c : Nat} (h : p * x ≤ c) : 0 ≤ (p : Int) * (x : Int) ∧ (p : Int) * (x : Int) ≤ (c : Int) := by
  rw [← Int.natCast_mul]; omega
theorem nat_le {p x : Nat} (h : (p : Int) * (x : Int) ≤ 4096) : p * x ≤ 4096 := by
  rw [← Int.natCast_mul] at h; omega

set_option maxHeartbeats 1000000 in
theorem shape_calls (a : Option Addr) (T cap b off : Nat) (F : Nat → Int) (w : World) (hn : T ≤ 9223372036854775807) (h : IsRow w .i64 a T b off F) :
    Calls Trym.prog 17 #[.slice a T cap] w fun e w' => ((e = .returned (.tuple #[.int .i64 (Pl.prodTo (fN F) T), .bool true]) ∧ ShapeOk F T) ∨ e = .returned (.tuple #[.int .i64 0, .bool false])) ∧ w' = w := by
  by_cases h0 : ((T : Int) == 0) = true
  · clear h
    go_enter Trym.func17, Trym.ntmps17
    go_wp2
    go_ret2
    exact ⟨Or.inr rfl, rfl⟩
  have h0' : ((T : Int) == 0) = false := by simpa using h0
  by_cases h12 : T ≤ 12
  case neg =>
    clear h
    go_enter Trym.func17, Trym.ntmps17
    go_wp2
    go_ret2
    exact ⟨Or.inr rfl, rfl⟩
  have hT1 : 1 ≤ T := by simp at h0; omega
  clear h0
  go_enter Trym.func17, Trym.ntmps17
  go_wp2
  go_loop [4, 5] (fun c i => ∃ (k p : Nat), k ≤ T ∧ p ≤ 4096 ∧ i = .int .i64 k ∧ c = .int .i64 p ∧ p = Pl.prodTo (fN F) k ∧ ∀ j, j < k → F j = (fN F j : Int) ∧ 1 ≤ fN F j) (fun _ i => T - (intOf i).toNat)
  case atStart => exact ⟨0, 1, Nat.zero_le _, by omega, rfl, rfl, rfl, fun j hj => by omega⟩
  case round =>
    obtain ⟨k, p, hk, hp, rfl, rfl, hpp, hj⟩ := hrel
    have HP := hid_mk hpp
    have HJ := hid_mk hj
    clear hpp hj
    by_cases hlt : k < T
    · have ha := h.at_ hlt
      subst ha
      have hc := h.cell k hlt
      clear h
      by_cases h1 : 1 ≤ F k
      · by_cases h2 : F k ≤ 4096
        · obtain ⟨x, hx⟩ : ∃ x : Nat, F k = (x : Int) := ⟨(F k).toNat, by omega⟩
          have HX : Hid (fN F k = x) := by show (F k).toNat = x; omega
          have HF : Hid (F k = (x : Int)) := hx
          rw [hx] at hc h1 h2
          clear hx
          have hm := mul_bound (p := p) (x := x) hp (by omega)
          obtain ⟨hm3, hm2⟩ := mul_boundZ hm
          by_cases h3 : (p : Int) * (x : Int) ≤ 4096
          · go_wp2
            go_round
            case rel => exact ⟨k + 1, p * x, by omega, nat_le h3, by go_num, by simp, by rw [Pl.prodTo_succ, ← HP.out, HX.out], fun j hj => by by_cases e : j = k; (subst e; rw [HX.out]; exact ⟨HF.out, by omega⟩); exact HJ.out j (by omega)⟩
            case measure => simp [intOf]; omega
          · go_wp2
            go_ret2
            exact ⟨Or.inr rfl, rfl⟩
        · go_wp2
          go_ret2
          exact ⟨Or.inr rfl, rfl⟩
      · go_wp2
        go_ret2
        exact ⟨Or.inr rfl, rfl⟩
    · obtain rfl : T = k := by omega
      clear h
      go_wp2
      go_ret2
      refine ⟨Or.inl ⟨?_, ⟨hT1, h12, fun i hi => (HJ.out i hi).1, fun i hi => (HJ.out i hi).2, by rw [← HP.out]; exact hp⟩⟩, rfl⟩
      rw [← HP.out]
      rfl

/-- Is one of the leaves from 'lo' on, 'j' of them, occupied? -/
def anyFrom (occ : Nat → Bool) (lo : Nat) : Nat → Bool
  | 0 => false
  | j + 1 => occ lo || anyFrom occ (lo + 1) j

theorem anyFrom_iff (occ : Nat → Bool) : ∀ (j lo : Nat), anyFrom occ lo j = true ↔ ∃ l, lo ≤ l ∧ l < lo + j ∧ occ l = true
  | 0, lo => by simp [anyFrom]; omega
  | j + 1, lo => by
    rw [anyFrom, Bool.or_eq_true, anyFrom_iff occ j (lo + 1)]
    constructor
    · rintro (h | ⟨l, h1, h2, h3⟩)
      · exact ⟨lo, Nat.le_refl _, by omega, h⟩
      · exact ⟨l, by omega, by omega, h3⟩
    · rintro ⟨l, h1, h2, h3⟩
      by_cases e : l = lo
      · subst e; exact Or.inl h3
      · exact Or.inr ⟨l, by omega, by omega, h3⟩

set_option maxHeartbeats 1000000 in
theorem any_calls (ob C : Nat) (occ : Nat → Bool) (lo per : Nat) (w : World) (hC : C ≤ 4096) (hh : lo + per ≤ C) (h : w.rowIs ob 4 C (fun l => .bool (occ l))) :
    Calls Trym.prog 43 #[.slice (some ⟨ob, 0, none⟩) C C, .int .i64 lo, .int .i64 ((lo : Int) + (per : Int))] w fun e w' => e = .returned (.bool (anyFrom occ lo per)) ∧ w' = w := by
  go_enter Trym.func43, Trym.ntmps43
  go_wp2
  go_loop [7] (fun i => ∃ k : Nat, k ≤ per ∧ i = .int .i64 ((lo : Int) + (k : Int)) ∧ anyFrom occ lo per = anyFrom occ (lo + k) (per - k)) (fun i => lo + per - (intOf i).toNat)
  case atStart => exact ⟨0, Nat.zero_le _, by simp, rfl⟩
  case round =>
    obtain ⟨k, hk, rfl, hany⟩ := hrel
    have HA := hid_mk hany
    clear hany
    by_cases hlt : k < per
    · have hc := h.cell (i := lo + k) (by omega)
      obtain ⟨j, hj⟩ : ∃ j, per - k = j + 1 := ⟨per - k - 1, by omega⟩
      have HS : Hid (anyFrom occ (lo + k) (per - k) = (occ (lo + k) || anyFrom occ (lo + k + 1) (per - (k + 1)))) := by
        show _ = _
        rw [hj, show per - (k + 1) = j by omega]; rfl
      clear hj
      cases ho : occ (lo + k) with
      | true =>
        rw [ho] at hc
        have HR : Hid (anyFrom occ lo per = true) := by show _ = _; rw [HA.out, HS.out, ho]; rfl
        clear ho
        go_wp2
        go_ret
        exact ⟨ret_bool HR.out.symm, rfl⟩
      | false =>
        rw [ho] at hc
        have HR : Hid (anyFrom occ lo per = anyFrom occ (lo + (k + 1)) (per - (k + 1))) := by show _ = _; rw [HA.out, HS.out, ho]; rfl
        clear ho
        go_wp2
        go_round
        case rel => exact ⟨k + 1, by omega, by go_num, HR.out⟩
        case measure => simp [intOf]; omega
    · obtain rfl : per = k := by omega
      go_wp2
      go_ret
      refine ⟨ret_bool ?_, rfl⟩
      rw [HA.out, Nat.sub_self]; rfl
end Go.Proofs.Qxb6600905aMods
