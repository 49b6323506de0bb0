/-
  The law FnRankedMarkingDownOnlyRemovesTheNode, walked.
-/
import Derived.Test.Qxb6600905aModsLawCl
import Derived.Test.Qxb6600905aModsDownW
import Derived.Test.Qxb6600905aModsLess
namespace Go.Proofs.Qxb6600905aMods
open Go.RowKit

set_option maxHeartbeats 2000000 in
set_option maxRecDepth 100000 in
theorem lawless_calls (a : Option Addr) (n cap b off : Nat) (M : Mems) (fa : Option Addr) (T fcap fb foff : Nat) (F : Nat → Int) (da : Option Addr) (nd dcap db doff : Nat) (D : Nat → Int) (wtd : Bool) (km j : Int) (w : World)
    (hn : n ≤ 9223372036854775807) (hT : T ≤ 9223372036854775807) (hnd : nd ≤ 9223372036854775807) (hk : MemsOk n M)
    (hM : IsMems w a n b off M) (hF : IsRow w .i64 fa T fb foff F) (hD : IsRow w .u64 da nd db doff D) :
    Calls Trym.prog 9 #[.slice a n cap, .slice fa T fcap, .slice da nd dcap, .bool wtd, .int .u64 km, .int .i64 j] w fun e w' => e = .returned (.bool true) ∧ Below w.heap.size w w' := by
  go_enter Trym.func9, Trym.ntmps9
  go_wp2_with fail
  refine (bytes33 a n cap b off M fa T fcap da nd dcap wtd km j w hn hT hnd hk hM).mono ?_
  rintro e w1 ⟨he, rfl⟩
  rcases he with rfl | rfl
  case inr =>
    go_wp2
    go_ret
    exact ⟨rfl, Below.refl _ _⟩
  case inl =>
  go_wp2_with fail
  refine (input_calls a n cap b off M T nd w1 hn hT hnd hM).mono ?_
  rintro e w2 ⟨he, rfl⟩
  rcases he with rfl | rfl
  case inr =>
    go_wp2
    go_ret
    exact ⟨rfl, Below.refl _ _⟩
  case inl =>
  by_cases hn4 : n ≤ 4096
  case neg =>
    go_wp2
    go_ret
    exact ⟨rfl, Below.refl _ _⟩
  case pos =>
  by_cases hT12 : T ≤ 12
  case neg =>
    go_wp2
    go_ret
    exact ⟨rfl, Below.refl _ _⟩
  case pos =>
  by_cases hd6 : nd ≤ 65536
  case neg =>
    go_wp2
    go_ret
    exact ⟨rfl, Below.refl _ _⟩
  case pos =>
  go_wp2_with fail
  refine (shape_calls fa T fcap fb foff F w2 hT hF).mono ?_
  rintro e w3 ⟨he, rfl⟩
  rcases he with ⟨rfl, hS⟩ | rfl
  case inr =>
    go_wp2
    go_ret
    exact ⟨rfl, Below.refl _ _⟩
  case inl =>
  go_wp2_with fail
  refine (slots_calls a n cap b off M w3 (by omega) hM).mono ?_
  rintro e w4 ⟨he, rfl⟩
  rcases he with ⟨rfl, hs0⟩ | rfl
  case inr =>
    go_wp2
    go_ret
    exact ⟨rfl, Below.refl _ _⟩
  case inl =>
  have hsl : ∀ i, i < n → 0 ≤ M.slot i ∧ M.slot i ≤ 9223372036854775807 := fun i hi => ⟨hs0 i hi, (hk.slot i hi).2⟩
  by_cases hj0 : j < 0
  case pos =>
    go_wp2
    go_ret
    exact ⟨rfl, Below.refl _ _⟩
  case neg =>
  obtain ⟨jn, rfl⟩ : ∃ jn : Nat, j = (jn : Int) := ⟨j.toNat, by omega⟩
  clear hj0
  by_cases hjn : jn < n
  case neg =>
    go_wp2
    go_ret
    exact ⟨rfl, Below.refl _ _⟩
  case pos =>
  have ha := hM.at_ hjn
  subst ha
  have x4 := hM.down jn hjn
  cases hjd : M.down jn with
  | true =>
    rw [hjd] at x4
    go_wp2
    go_ret
    exact ⟨rfl, Below.refl _ _⟩
  | false =>
  rw [hjd] at x4
  have hup : ∃ i, i < n ∧ M.down i = false := ⟨jn, hjn, hjd⟩
  go_wp2_with fail
  clear x4
  refine (descend_calls (some ⟨b, off, none⟩) n cap b off M fa T fcap fb foff F da nd dcap db doff D km w4 hn4 hS (by omega) hsl hup hM hF hD).mono ?_
  rintro e w5 ⟨rfl, hb5⟩
  have hM5 := hM.below hb5
  have hF5 := hF.below hb5
  have hD5 := hD.below hb5
  have x3 := hM5.slot jn hjn
  have hs1 := hsl jn hjn
  have hC1 := hS.prod
  have hC0 : 1 ≤ Pl.prodTo (fN F) T := Pl.prodTo_pos hS.one
  have hm := lf_eq (M := M) (i := jn) (C := Pl.prodTo (fN F) T) (by omega)
  have hlC := leafOf_lt (km := km) (n := n) (M := M) (nd := nd) (D := D) hS
  have hlfC : lf M (Pl.prodTo (fN F) T) jn < Pl.prodTo (fN F) T := lf_lt (by omega)
  have HLD := hid_mk (fun hne => leaf_down (km := km) (nd := nd) (D := D) hS hjn hjd hne)
  clear hM hF hD
  obtain ⟨l, hle⟩ : ∃ l, l = leafOf km n M F T nd D := ⟨_, rfl⟩
  obtain ⟨C, hCe⟩ : ∃ C, C = Pl.prodTo (fN F) T := ⟨_, rfl⟩
  rw [← hle] at hlC HLD ⊢
  rw [← hCe] at hC1 hC0 hm hlC hlfC HLD ⊢
  have HLE := hid_mk hle
  have HCE := hid_mk hCe
  clear hle hCe
  by_cases hj : lf M C jn = l
  case pos =>
    rw [hj] at hm
    have HJ := hid_mk hj
    clear hj hlfC
    go_wp2_with fail
    refine (upin_calls (some ⟨b, off, none⟩) n cap b off M C l w5 (by omega) (by omega) hC1 (fun i hi => (hsl i hi).1) (fun i hi => (hsl i hi).2) hM5).mono ?_
    rintro e w6 ⟨rfl, rfl⟩
    have hcc : Pl.cnt (inB (fun i => !M.down i) (lf M C) l) n = cl (fun i => !M.down i) (lf M C) l n := rfl
    rw [hcc]
    by_cases hone : cl (fun i => !M.down i) (lf M C) l n = 1
    case pos =>
      rw [hone]
      go_wp2
      go_ret
      exact ⟨rfl, hb5⟩
    case neg =>
    obtain ⟨hleaf, hup'⟩ := HLD.out (fun g => hone g.2)
    have hone' : (((cl (fun i => !M.down i) (lf M C) l n : Nat) : Int) == 1) = false := by simp; omega
    generalize cl (fun i => !M.down i) (lf M C) l n = cc at hone' hone ⊢
    have HLF := hid_mk hleaf
    clear HLD hleaf
    go_wp2_with fail
    clear hone hone'
    refine (build_calls (some ⟨b, off, none⟩) n cap b off M fa T fcap fb foff F da nd dcap db doff D wtd (-1) _ hn4 hS (by omega) hM5 hF5 hD5).mono ?_
    rintro e v6 ⟨sp, rfl, hB⟩
    go_wp2_with fail
    refine (zzcluster_calls _ v6 sp n T M (-1) F nd D wtd hn4 hS hsl hB).mono ?_
    rintro e v7 ⟨rfl, hMade⟩
    clear hB
    rw [downM_none] at hMade
    obtain ⟨mb, nb, wb, bb, g, cp, vb, lb, ni, nn, wt, hset, hb7⟩ := hMade
    have hM7 := hM5.below hb7
    have hF7 := hF5.below hb7
    have hD7 := hD5.below hb7
    have hbb7 := hb5.trans (hb7.mono hb5.size)
    clear hM5 hF5 hD5 hb5 hb7
    go_wp2_with fail
    refine (zzleaf_calls km hS hset).mono ?_
    rintro e v8 ⟨rfl, hb8⟩
    rw [← HLE.out]
    have hset8 := hset.below hb8
    have hM8 := hM7.below hb8
    have hF8 := hF7.below hb8
    have hD8 := hD7.below hb8
    have hbb8 := hbb7.trans (hb8.mono hbb7.size)
    clear hset hM7 hF7 hD7 hb8 hbb7
    go_wp2_with fail
    refine (zzrank_calls km hn4 hS hup hset8).mono ?_
    rintro e v9 ⟨ia, wa, wo, c1, wc, idsA, nmsA, wsA, rfl, hRA, hb9⟩
    rw [← HCE.out, ← HLE.out] at hRA
    have hM9 := hM8.below hb9
    have hF9 := hF8.below hb9
    have hD9 := hD8.below hb9
    have hbb9 := hbb8.trans (hb9.mono hbb8.size)
    clear hset8 hM8 hF8 hD8 hb9 hbb8
    unfold rankTuple
    go_wp2_with fail
    refine (build_calls (some ⟨b, off, none⟩) n cap b off M fa T fcap fb foff F da nd dcap db doff D wtd (jn : Int) v9 hn4 hS (by omega) hM9 hF9 hD9).mono ?_
    rintro e v10 ⟨sp2, rfl, hB⟩
    go_wp2_with fail
    refine (zzcluster_calls v9 v10 sp2 n T M (jn : Int) F nd D wtd hn4 hS hsl hB).mono ?_
    rintro e v11 ⟨rfl, hMade⟩
    clear hB
    obtain ⟨mb2, nb2, wb2, bb2, g2, cp2, vb2, lb2, ni2, nn2, wt2, hset2, hb11⟩ := hMade
    have hM11 := hM9.below hb11
    have hRA11 := hRA.below hb11
    have hbb11 := hbb9.trans (hb11.mono hbb9.size)
    clear hM9 hF9 hD9 hRA hb11 hbb9
    go_wp2_with fail
    refine (zzleaf_calls km hS hset2).mono ?_
    rintro e v12 ⟨rfl, hb12⟩
    rw [HLF.out]
    have hset12 := hset2.below hb12
    have hM12 := hM11.below hb12
    have hRA12 := hRA11.below hb12
    have hbb12 := hbb11.trans (hb12.mono hbb11.size)
    clear hset2 hM11 hRA11 hb12 hbb11
    go_wp2_with fail
    refine (zzrank_calls km hn4 hS hup' hset12).mono ?_
    rintro e v13 ⟨ib, wb', wo2, c2, wc2, idsB, nmsB, wsB, rfl, hRB, hb13⟩
    rw [← HCE.out, HLF.out] at hRB
    have hM13 := hM12.below hb13
    have hRA13 := hRA12.below hb13
    have hbb13 := hbb12.trans (hb13.mono hbb12.size)
    clear hset12 hM12 hRA12 hb13 hbb12
    unfold rankTuple
    have HRA := hid_mk hRA13
    have HRB := hid_mk hRB
    have HBB := hid_mk hbb13
    clear hRA13 hRB hbb13
    go_wp2
    go_loop [26, 27] (fun s i => ∃ k q : Nat, k ≤ jn ∧ i = .int .i64 k ∧ s = .int .i64 q ∧ q = cl (fun i => !M.down i) (lf M C) l k) (fun _ i => jn - (intOf i).toNat)
    case atStart => exact ⟨0, 0, Nat.zero_le _, rfl, rfl, rfl⟩
    case round =>
      obtain ⟨k, q, hk', rfl, rfl, hq⟩ := hrel
      have hqk : q ≤ k := by rw [hq]; exact cl_le _ _ _ _
      by_cases hlt : k < jn
      · have y4 := hM13.down k (by omega)
        have y3 := hM13.slot k (by omega)
        have hs2 := hsl k (by omega)
        have hm2 := lf_eq (M := M) (i := k) (C := C) (by omega)
        cases hd : M.down k with
        | true =>
          have HQ := hid_mk (show q = cl (fun i => !M.down i) (lf M C) l (k + 1) by rw [cl_no (fun g => by have := g.1; simp [hd] at this)]; exact hq)
          rw [hd] at y4
          clear hd hq hM13
          go_wp2
          go_round
          case rel => exact ⟨k + 1, q, by omega, by go_num, rfl, HQ.out⟩
          case measure => simp [intOf]; omega
        | false =>
          rw [hd] at y4
          by_cases hkl : lf M C k = l
          · have HQ := hid_mk (show q + 1 = cl (fun i => !M.down i) (lf M C) l (k + 1) by rw [cl_yes (by simp [hd]) hkl, hq])
            rw [hkl] at hm2
            clear hd hq hM13 hkl
            go_wp2
            go_round
            case rel => exact ⟨k + 1, q + 1, by omega, by go_num, by go_num, HQ.out⟩
            case measure => simp [intOf]; omega
          · have HQ := hid_mk (show q = cl (fun i => !M.down i) (lf M C) l (k + 1) by rw [cl_no (fun g => hkl g.2)]; exact hq)
            have hkl' : (((lf M C k : Nat) : Int) == (l : Int)) = false := by simp; omega
            generalize lf M C k = z at hm2 hkl'
            clear hd hq hM13 hkl
            go_wp2
            go_round
            case rel => exact ⟨k + 1, q, by omega, by go_num, rfl, HQ.out⟩
            case measure => simp [intOf]; omega
      · obtain rfl : jn = k := by omega
        have HC := hid_mk (same_some wc wc2 hn4 hjn hjd HJ.out HRA.out HRB.out)
        rw [← hq] at HC
        clear hq hM13
        go_wp2_with fail
        refine HC.out.mono ?_
        rintro e v14 ⟨rfl, hb14⟩
        go_wp2
        go_ret
        exact ⟨rfl, HBB.out.trans (hb14.mono HBB.out.size)⟩
  case neg =>
    have hjj : (((lf M C jn : Nat) : Int) == (l : Int)) = false := by simp; omega
    obtain ⟨hleaf, hup'⟩ := HLD.out (fun g => hj g.1)
    have HJ := hid_mk hj
    generalize lf M C jn = zz at hm hjj hlfC
    clear hj
    have HLF := hid_mk hleaf
    clear HLD hleaf
    go_wp2_with fail
    refine (build_calls (some ⟨b, off, none⟩) n cap b off M fa T fcap fb foff F da nd dcap db doff D wtd (-1) _ hn4 hS (by omega) hM5 hF5 hD5).mono ?_
    rintro e v6 ⟨sp, rfl, hB⟩
    go_wp2_with fail
    refine (zzcluster_calls _ v6 sp n T M (-1) F nd D wtd hn4 hS hsl hB).mono ?_
    rintro e v7 ⟨rfl, hMade⟩
    clear hB
    rw [downM_none] at hMade
    obtain ⟨mb, nb, wb, bb, g, cp, vb, lb, ni, nn, wt, hset, hb7⟩ := hMade
    have hM7 := hM5.below hb7
    have hF7 := hF5.below hb7
    have hD7 := hD5.below hb7
    have hbb7 := hb5.trans (hb7.mono hb5.size)
    clear hM5 hF5 hD5 hb5 hb7
    go_wp2_with fail
    refine (zzleaf_calls km hS hset).mono ?_
    rintro e v8 ⟨rfl, hb8⟩
    rw [← HLE.out]
    have hset8 := hset.below hb8
    have hM8 := hM7.below hb8
    have hF8 := hF7.below hb8
    have hD8 := hD7.below hb8
    have hbb8 := hbb7.trans (hb8.mono hbb7.size)
    clear hset hM7 hF7 hD7 hb8 hbb7
    go_wp2_with fail
    refine (zzrank_calls km hn4 hS hup hset8).mono ?_
    rintro e v9 ⟨ia, wa, wo, c1, wc, idsA, nmsA, wsA, rfl, hRA, hb9⟩
    rw [← HCE.out, ← HLE.out] at hRA
    have hM9 := hM8.below hb9
    have hF9 := hF8.below hb9
    have hD9 := hD8.below hb9
    have hbb9 := hbb8.trans (hb9.mono hbb8.size)
    clear hset8 hM8 hF8 hD8 hb9 hbb8
    unfold rankTuple
    go_wp2_with fail
    refine (build_calls (some ⟨b, off, none⟩) n cap b off M fa T fcap fb foff F da nd dcap db doff D wtd (jn : Int) v9 hn4 hS (by omega) hM9 hF9 hD9).mono ?_
    rintro e v10 ⟨sp2, rfl, hB⟩
    go_wp2_with fail
    refine (zzcluster_calls v9 v10 sp2 n T M (jn : Int) F nd D wtd hn4 hS hsl hB).mono ?_
    rintro e v11 ⟨rfl, hMade⟩
    clear hB
    obtain ⟨mb2, nb2, wb2, bb2, g2, cp2, vb2, lb2, ni2, nn2, wt2, hset2, hb11⟩ := hMade
    have hM11 := hM9.below hb11
    have hRA11 := hRA.below hb11
    have hbb11 := hbb9.trans (hb11.mono hbb9.size)
    clear hM9 hF9 hD9 hRA hb11 hbb9
    go_wp2_with fail
    refine (zzleaf_calls km hS hset2).mono ?_
    rintro e v12 ⟨rfl, hb12⟩
    rw [HLF.out]
    have hset12 := hset2.below hb12
    have hM12 := hM11.below hb12
    have hRA12 := hRA11.below hb12
    have hbb12 := hbb11.trans (hb12.mono hbb11.size)
    clear hset2 hM11 hRA11 hb12 hbb11
    go_wp2_with fail
    refine (zzrank_calls km hn4 hS hup' hset12).mono ?_
    rintro e v13 ⟨ib, wb', wo2, c2, wc2, idsB, nmsB, wsB, rfl, hRB, hb13⟩
    rw [← HCE.out, HLF.out] at hRB
    have hM13 := hM12.below hb13
    have hRA13 := hRA12.below hb13
    have hbb13 := hbb12.trans (hb13.mono hbb12.size)
    clear hset12 hM12 hRA12 hb13 hbb12
    unfold rankTuple
    have HRA := hid_mk hRA13
    have HRB := hid_mk hRB
    have HBB := hid_mk hbb13
    clear hRA13 hRB hbb13
    go_wp2_with fail
    refine (same_none wc wc2 hn4 hjd HJ.out HRA.out HRB.out).mono ?_
    rintro e v14 ⟨rfl, hb14⟩
    go_wp2
    go_ret
    exact ⟨rfl, HBB.out.trans (hb14.mono HBB.out.size)⟩
end Go.Proofs.Qxb6600905aMods
