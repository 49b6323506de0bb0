/-
  The law FnRankedIsTheClusterTheKeyDescendsTo, walked.
-/
import Derived.Test.Qxb6600905aModsLawCl
import Derived.Test.Qxb6600905aModsDownW
import Derived.Test.Qxb6600905aModsRankIs
namespace Go.Proofs.Qxb6600905aMods
open Go.RowKit

set_option maxHeartbeats 1000000 in
set_option maxRecDepth 100000 in
theorem lawkey_calls (a : Option Addr) (n cap b off : Nat) (M : Mems) (fa : Option Addr) (T fcap fb foff : Nat) (F : Nat → Int) (da : Option Addr) (nd dcap db doff : Nat) (D : Nat → Int) (wtd : Bool) (km : Int) (w : World)
    (hn : n ≤ 9223372036854775807) (hT : T ≤ 9223372036854775807) (hnd : nd ≤ 9223372036854775807) (hk : MemsOk n M)
    (hM : IsMems w a n b off M) (hF : IsRow w .i64 fa T fb foff F) (hD : IsRow w .u64 da nd db doff D) :
    Calls Trym.prog 8 #[.slice a n cap, .slice fa T fcap, .slice da nd dcap, .bool wtd, .int .u64 km] w fun e w' => e = .returned (.bool true) ∧ Below w.heap.size w w' := by
  go_enter Trym.func8, Trym.ntmps8
  go_wp2_with fail
  refine (bytes29 a n cap b off M fa T fcap da nd dcap wtd km w hn hT hnd hk hM).mono ?_
  rintro e w1 ⟨he, rfl⟩
  rcases he with rfl | rfl
  case inr =>
    go_wp2
    go_ret
    exact ⟨rfl, Below.refl _ _⟩
  case inl =>
  go_wp2_with fail
  refine (input_calls a n cap b off M T nd w1 hn hT hnd hM).mono ?_
  rintro e w2 ⟨he, rfl⟩
  rcases he with rfl | rfl
  case inr =>
    go_wp2
    go_ret
    exact ⟨rfl, Below.refl _ _⟩
  case inl =>
  by_cases hn4 : n ≤ 4096
  case neg =>
    go_wp2
    go_ret
    exact ⟨rfl, Below.refl _ _⟩
  case pos =>
  by_cases hT12 : T ≤ 12
  case neg =>
    go_wp2
    go_ret
    exact ⟨rfl, Below.refl _ _⟩
  case pos =>
  by_cases hd6 : nd ≤ 65536
  case neg =>
    go_wp2
    go_ret
    exact ⟨rfl, Below.refl _ _⟩
  case pos =>
  go_wp2_with fail
  refine (shape_calls fa T fcap fb foff F w2 hT hF).mono ?_
  rintro e w3 ⟨he, rfl⟩
  rcases he with ⟨rfl, hS⟩ | rfl
  case inr =>
    go_wp2
    go_ret
    exact ⟨rfl, Below.refl _ _⟩
  case inl =>
  go_wp2_with fail
  refine (slots_calls a n cap b off M w3 (by omega) hM).mono ?_
  rintro e w4 ⟨he, rfl⟩
  rcases he with ⟨rfl, hs0⟩ | rfl
  case inr =>
    go_wp2
    go_ret
    exact ⟨rfl, Below.refl _ _⟩
  case inl =>
  have hsl : ∀ i, i < n → 0 ≤ M.slot i ∧ M.slot i ≤ 9223372036854775807 := fun i hi => ⟨hs0 i hi, (hk.slot i hi).2⟩
  go_wp2_with fail
  refine (count_calls a n cap b off M (-1) w4 (by omega) hM).mono ?_
  rintro e w5 ⟨rfl, rfl⟩
  rw [upB_none]
  by_cases hz : Pl.cnt (fun i => !M.down i) n = 0
  case pos =>
    rw [hz]
    go_wp2
    go_ret
    exact ⟨rfl, Below.refl _ _⟩
  case neg =>
  have hup : ∃ i, i < n ∧ M.down i = false := by
    obtain ⟨i, h1, h2⟩ := Pl.cnt_pos.1 (Nat.pos_of_ne_zero hz)
    exact ⟨i, h1, by simpa using h2⟩
  have hz' : (((Pl.cnt (fun i => !M.down i) n : Nat) : Int) == 0) = false := by simp; omega
  generalize Pl.cnt (fun i => !M.down i) n = up at hz' hz ⊢
  go_wp2_with fail
  clear hz hz'
  refine (build_calls a n cap b off M fa T fcap fb foff F da nd dcap db doff D wtd (-1) w5 hn4 hS (by omega) hM hF hD).mono ?_
  rintro e w6 ⟨sp, rfl, hB⟩
  go_wp2_with fail
  refine (zzcluster_calls w5 w6 sp n T M (-1) F nd D wtd hn4 hS hsl hB).mono ?_
  rintro e w7 ⟨rfl, hMade⟩
  clear hB
  rw [downM_none] at hMade
  obtain ⟨mb, nb, wb, bb, g, cp, vb, lb, ni, nn, wt, hset, hb7⟩ := hMade
  have hM7 := hM.below hb7
  have hF7 := hF.below hb7
  have hD7 := hD.below hb7
  go_wp2_with fail
  refine (zzrank_calls km hn4 hS hup hset).mono ?_
  rintro e w8 ⟨ib, wb', wo, c, wcap, ids, nms, ws, rfl, hR, hb8⟩
  have hM8 := hM7.below hb8
  have hF8 := hF7.below hb8
  have hD8 := hD7.below hb8
  have hbb := hb7.trans (hb8.mono hb7.size)
  clear hset hM7 hF7 hD7 hb7 hb8 hM hF hD
  unfold rankTuple
  go_wp2_with fail
  refine (descend_calls a n cap b off M fa T fcap fb foff F da nd dcap db doff D km w8 hn4 hS (by omega) hsl hup hM8 hF8 hD8).mono ?_
  rintro e w9 ⟨rfl, hb9⟩
  have hM9 := hM8.below hb9
  have hR9 := hR.below hb9
  have hb := hbb.trans (hb9.mono hbb.size)
  clear hR hM8 hF8 hD8 hb9 hbb
  go_wp2_with fail
  refine (match_calls a n cap b off M _ _ c ib wb' wo wcap wtd ids nms ws w9 hn4 (Pl.prodTo_pos hS.one) hS.prod hsl hM9 hR9).mono ?_
  rintro e w10 ⟨rfl, hb10⟩
  go_wp2
  go_ret
  exact ⟨rfl, hb.trans (hb10.mono hb.size)⟩
end Go.Proofs.Qxb6600905aMods
