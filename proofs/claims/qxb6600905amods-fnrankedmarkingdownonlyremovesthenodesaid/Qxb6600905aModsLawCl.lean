/-
  The law FnClusterGroupsUpMembersByLeafCluster, walked.
-/
import Derived.Test.Qxb6600905aModsLive
import Derived.BigQuiet
import Derived.WalkSmall
import Derived.Deep.QuietTactic
namespace Go.Proofs.Qxb6600905aMods
open Go.RowKit
attribute [local go_sem] run_store_float

theorem downM_none (M : Mems) : downM M (-1) = M := by
  have : (fun i : Nat => M.down i || (i : Int) == -1) = M.down := by
    funext i
    have : ((i : Int) == -1) = false := by simp
    rw [this, Bool.or_false]
  unfold downM
  rw [this]

theorem upB_none (M : Mems) (n : Nat) : Pl.cnt (upB M (-1)) n = Pl.cnt (fun i => !M.down i) n := Pl.cnt_congr (fun i _ => by rw [upB_down, downM_none])

theorem noRow (w : World) (k : IntKind) (b off : Nat) : IsRow w k none 0 b off (fun _ => 0) := ⟨.inl rfl, fun h => by omega, fun i hi => by omega⟩

theorem rowIs_drewN_alloc {w : World} {b e n : Nat} {f : Nat → Value} (h : w.rowIs b e n f) (o : Obj) (m : Nat) : ((w.alloc o).drewN m).rowIs b e n f := (h.alloc o).of_block rfl

/-- The counts while the clusters are walked. -/
def cntF (U : Nat → Bool) (L : Nat → Nat) (n l k x : Nat) : Nat := if x < l then cl U L x n else if x = l then cl U L l k else 0

theorem cntF_zero (U : Nat → Bool) (L : Nat → Nat) (n x : Nat) : cntF U L n 0 0 x = 0 := by
  unfold cntF; rw [if_neg (by omega)]; split <;> rfl
theorem cntF_next (U : Nat → Bool) (L : Nat → Nat) (n l x : Nat) : cntF U L n l n x = cntF U L n (l + 1) 0 x := by
  unfold cntF
  by_cases h : x < l
  · rw [if_pos h, if_pos (by omega)]
  · rw [if_neg h]
    by_cases e : x = l
    · subst e; rw [if_pos rfl, if_pos (by omega)]
    · rw [if_neg e, if_neg (by omega)]; split <;> rfl
theorem cntF_step {U : Nat → Bool} {L : Nat → Nat} {n l k : Nat} (h : cl U L l (k + 1) = cl U L l k + 1) (x : Nat) :
    (if x = l then Value.int .i64 ((cl U L l k : Nat) + 1 : Int) else Value.int .i64 (cntF U L n l k x : Nat)) = Value.int .i64 (cntF U L n l (k + 1) x : Nat) := by
  unfold cntF
  by_cases e : x = l
  · subst e; rw [if_pos rfl, if_neg (by omega), if_pos rfl, h, Int.natCast_add]; rfl
  · rw [if_neg e]
    by_cases e2 : x < l
    · rw [if_pos e2, if_pos e2]
    · rw [if_neg e2, if_neg e2, if_neg e, if_neg e]
theorem cntF_skip {U : Nat → Bool} {L : Nat → Nat} {n l k : Nat} (h : cl U L l (k + 1) = cl U L l k) (x : Nat) : cntF U L n l k x = cntF U L n l (k + 1) x := by
  unfold cntF; rw [h]
theorem cntF_at (U : Nat → Bool) (L : Nat → Nat) (n l k : Nat) : cntF U L n l k l = cl U L l k := by unfold cntF; rw [if_neg (by omega), if_pos rfl]
theorem cntF_end (U : Nat → Bool) (L : Nat → Nat) (n C k : Nat) {x : Nat} (h : x < C) : cntF U L n C k x = cl U L x n := by unfold cntF; rw [if_pos h]

set_option maxHeartbeats 1000000 in
set_option maxRecDepth 100000 in
theorem lawcl_true (a : Option Addr) (n cap b off : Nat) (M : Mems) (fa : Option Addr) (T fcap fb foff : Nat) (F : Nat → Int) (w : World) (hn : n ≤ 9223372036854775807) (hT : T ≤ 9223372036854775807) (hk : MemsOk n M)
    (hM : IsMems w a n b off M) (hF : IsRow w .i64 fa T fb foff F) :
    Calls Trym.prog 6 #[.slice a n cap, .slice fa T fcap, .bool true] w fun e w' => e = .returned (.bool true) ∧ Below w.heap.size w w' := by
  go_enter Trym.func6, Trym.ntmps6
  go_wp2_with fail
  refine (bytes15 a n cap b off M fa T fcap true w hn hT hk hM).mono ?_
  rintro e w1 ⟨he, rfl⟩
  rcases he with rfl | rfl
  case inr =>
    go_wp2
    go_ret
    exact ⟨rfl, Below.refl _ _⟩
  case inl =>
  go_wp2_with fail
  refine (input_calls a n cap b off M T 0 w1 hn hT (by omega) hM).mono ?_
  rintro e w2 ⟨he, rfl⟩
  rcases he with rfl | rfl
  case inr =>
    go_wp2
    go_ret
    exact ⟨rfl, Below.refl _ _⟩
  case inl =>
  by_cases hn4 : n ≤ 4096
  case neg =>
    go_wp2
    go_ret
    exact ⟨rfl, Below.refl _ _⟩
  case pos =>
  by_cases hT12 : T ≤ 12
  case neg =>
    go_wp2
    go_ret
    exact ⟨rfl, Below.refl _ _⟩
  case pos =>
  go_wp2_with fail
  refine (shape_calls fa T fcap fb foff F w2 hT hF).mono ?_
  rintro e w3 ⟨he, rfl⟩
  rcases he with ⟨rfl, hS⟩ | rfl
  case inr =>
    go_wp2
    go_ret
    exact ⟨rfl, Below.refl _ _⟩
  case inl =>
  go_wp2_with fail
  refine (slots_calls a n cap b off M w3 (by omega) hM).mono ?_
  rintro e w4 ⟨he, rfl⟩
  rcases he with ⟨rfl, hs0⟩ | rfl
  case inr =>
    go_wp2
    go_ret
    exact ⟨rfl, Below.refl _ _⟩
  case inl =>
  have hsl : ∀ i, i < n → 0 ≤ M.slot i ∧ M.slot i ≤ 9223372036854775807 := fun i hi => ⟨hs0 i hi, (hk.slot i hi).2⟩
  go_wp2_with fail
  refine (build_calls a n cap b off M fa T fcap fb foff F none 0 0 0 0 (fun _ => 0) true (-1) w4 hn4 hS (by omega) hM hF (noRow _ _ _ _)).mono ?_
  rintro e w5 ⟨sp, rfl, hB⟩
  go_wp2_with fail
  refine (zzcluster_calls w4 w5 sp n T M (-1) F 0 (fun _ => 0) true hn4 hS hsl hB).mono ?_
  rintro e w6 ⟨rfl, hMade⟩
  clear hB
  rw [downM_none] at hMade
  obtain ⟨mb, nb, wb, bb, g, cp, vb, lb, ni, nn, wt, hset, hb6⟩ := hMade
  go_wp2_with fail
  refine (zznodes_calls hn4 hset).mono ?_
  rintro e w7 ⟨rfl, r1, r2, hb7⟩
  have hset7 := hset.below hb7
  have hM7 := (hM.below hb6).below hb7
  have hF7 := (hF.below hb6).below hb7
  have hb8 := hb6.trans (hb7.mono hb6.size)
  clear hset hb7 hM hF hb6
  go_wp2_with fail
  refine (zzweights_calls hset7).mono ?_
  rintro e w8 ⟨rfl, rfl⟩
  go_wp2_with fail
  refine (zzbounds_calls hset7).mono ?_
  rintro e w9 ⟨rfl, rfl⟩
  go_wp2_with fail
  refine (count_calls a n cap b off M (-1) w9 (by omega) hM7).mono ?_
  rintro e w10 ⟨rfl, rfl⟩
  rw [upB_none]
  have heq := hset7.eq
  have hbds := hset7.bds
  have hwts := hset7.wts rfl
  have HSET := hid_mk hset7
  have HF := hid_mk hF7
  have HS := hid_mk hS
  have HB := hid_mk hb8
  have hC1 := hS.prod
  have hC0 : 1 ≤ Pl.prodTo (fN F) T := Pl.prodTo_pos hS.one
  have hul := Pl.cnt_le (fun i => !M.down i) n
  have hL : ∀ i, i < n → lf M (Pl.prodTo (fN F) T) i < Pl.prodTo (fN F) T := fun i _ => lf_lt (by omega)
  generalize hCe : Pl.prodTo (fN F) T = C at *
  obtain ⟨Z, hZ⟩ := made29
  have hm29 := fun (W : World) => hZ.run C W (by omega)
  have hst := ((hZ.row1 w10 C).congr (g := fun x => .int .i64 (cntF (fun i => !M.down i) (lf M C) n 0 0 x : Nat)) (fun x _ => by show Value.int .i64 0 = _; rw [cntF_zero]; rfl))
  generalize hupe : Pl.cnt (fun i => !M.down i) n = up at *
  have qn := fun (W : World) (x : Option Addr) (l c : Nat) => Lib.run_eql_slice_nil (P := Trym.prog) W 41 45 x l c 0 0 Trym.underlying41
  clear hset7 hF7 hS hb8
  go_wp2
  clear qn
  clear hm29
  have hup9 : up ≤ n := hul
  go_loopw [16, 17] (fun p i wr => ∃ l q : Nat, l ≤ C ∧ i = .int .i64 l ∧ p = .int .i64 q ∧ q = start (fun i => !M.down i) (lf M C) n l ∧ wr.rowIs w10.heap.size 3 C (fun x => .int .i64 (cntF (fun i => !M.down i) (lf M C) n l 0 x : Nat)) ∧ Below w10.heap.size w10 wr) (fun _ i _ => C - (intOf i).toNat)
  case atStart => exact ⟨0, 0, Nat.zero_le _, rfl, rfl, rfl, hst, (Below.refl _ _).alloc (Nat.le_refl _) _⟩
  case round =>
    obtain ⟨l, q, hl, rfl, rfl, hq, hrow, hb⟩ := hrel
    clear hst
    have c0 := (kept_row hbds hb).cell (i := l) (by omega)
    rw [← hq] at c0
    have hqn : q ≤ n := by rw [hq]; exact start_bound hL hl
    by_cases hlt : l < C
    · have HQ := hid_mk hq
      have HROW := hid_mk hrow
      have HB2 := hid_mk hb
      clear hq hrow hb
      go_wp2
      clear c0
      go_loopw [16, 18] (fun p i wx => ∃ k q : Nat, k ≤ n ∧ i = .int .i64 k ∧ p = .int .i64 q ∧ q = start (fun i => !M.down i) (lf M C) n l + cl (fun i => !M.down i) (lf M C) l k ∧ wx.rowIs w10.heap.size 3 C (fun x => .int .i64 (cntF (fun i => !M.down i) (lf M C) n l k x : Nat)) ∧ Below w10.heap.size w10 wx) (fun _ i _ => n - (intOf i).toNat)
      case atStart => exact ⟨0, q, Nat.zero_le _, rfl, rfl, HQ.out, HROW.out, HB2.out⟩
      case round =>
        obtain ⟨k, q, hk', rfl, rfl, hq, hrow, hb⟩ := hrel
        clear HQ HROW HB2 hqn
        by_cases hkn : k < n
        · have ha := hM7.at_ hkn
          subst ha
          have hMx := hM7.below hb
          have x0 := hMx.id k hkn
          have x1 := hMx.nm k hkn
          have x2 := hMx.wt k hkn
          have x3 := hMx.slot k hkn
          have x4 := hMx.down k hkn
          have HB := hid_mk hb
          have HR := hid_mk hrow
          cases hd : M.down k with
          | true =>
            have hcl : cl (fun i => !M.down i) (lf M C) l (k + 1) = cl (fun i => !M.down i) (lf M C) l k := cl_no (fun g => by have := g.1; simp [hd] at this)
            have HQ := hid_mk (show q = start (fun i => !M.down i) (lf M C) n l + cl (fun i => !M.down i) (lf M C) l (k + 1) by rw [hcl]; exact hq)
            have HR2 := hid_mk (hrow.congr (fun x _ => by rw [cntF_skip hcl]))
            rw [hd] at x4
            clear hd hcl hq hrow hb hMx hM7 HR
            go_wp2
            go_roundw
            case rel => exact ⟨k + 1, q, by omega, by go_num, rfl, HQ.out, HR2.out.alloc _, HB.out.alloc HB.out.size _⟩
            case measure => simp [intOf]; omega
          | false =>
            rw [hd] at x4
            have hs1 := hsl k hkn
            have hm := lf_eq (M := M) (i := k) (C := C) (by omega)
            by_cases hj : lf M C k = l
            case neg =>
              have hcl : cl (fun i => !M.down i) (lf M C) l (k + 1) = cl (fun i => !M.down i) (lf M C) l k := cl_no (fun g => hj g.2)
              have HQ := hid_mk (show q = start (fun i => !M.down i) (lf M C) n l + cl (fun i => !M.down i) (lf M C) l (k + 1) by rw [hcl]; exact hq)
              have HR2 := hid_mk (hrow.congr (fun x _ => by rw [cntF_skip hcl]))
              have hj' : (((lf M C k : Nat) : Int) == (l : Int)) = false := by simp; omega
              generalize lf M C k = z at hm hj'
              clear hd hcl hq hrow hb hMx hM7 HR hj
              go_wp2
              go_roundw
              case rel => exact ⟨k + 1, q, by omega, by go_num, rfl, HQ.out, HR2.out.alloc _, HB.out.alloc HB.out.size _⟩
              case measure => simp [intOf]; omega
            case pos =>
              have hcl : cl (fun i => !M.down i) (lf M C) l (k + 1) = cl (fun i => !M.down i) (lf M C) l k + 1 := cl_yes (by simp [hd]) hj
              have hpos : q = pos (fun i => !M.down i) (lf M C) n k := by unfold pos; rw [hj]; exact hq
              have hqu : q < up := by rw [hpos, ← hupe]; exact pos_up hL hkn (by simp [hd])
              obtain ⟨e0, e1, e2⟩ := heq k hkn hd
              have e3 := e2 rfl
              rw [← hpos] at e0 e1 e3
              have y0 := (kept_row r1 hb).cell hqu
              have y1 := (kept_row r2 hb).cell hqu
              have y2 := (kept_row hwts hb).cell hqu
              rw [e0] at y0
              rw [e1] at y1
              rw [e3] at y2
              have y0l := (kept_row r1 hb).lt
              have y1l := (kept_row r2 hb).lt
              have y2l := (kept_row hwts hb).lt
              have z0 := hrow.cell hlt
              have z1 := hrow.frozen l
              have zl := hrow.lt
              rw [cntF_at] at z0
              have hclb := cl_le (fun i => !M.down i) (lf M C) l k
              have HQ := hid_mk (show q + 1 = start (fun i => !M.down i) (lf M C) n l + cl (fun i => !M.down i) (lf M C) l (k + 1) by rw [hcl, hq]; omega)
              have HC := hid_mk hcl
              rw [hj] at hm
              generalize hcg : cl (fun i => !M.down i) (lf M C) l k = c at z0 hclb
              clear hd hcl hq hrow hb hMx hM7 hj hpos e0 e1 e2 e3 heq r1 r2 hwts hbds
              go_wp2
              go_quiet (fail)
              go_wp2
              go_quiet ((go_at_call 25; exact (same_calls _ _).mono (fun _ _ h => ⟨h.1, _, h.2⟩)))
              go_wp2
              go_roundw
              case rel => 
                refine ⟨k + 1, q + 1, by omega, by go_num, by go_num, HQ.out, ?_, ?_⟩
                · rw [← hcg]
                  exact ((rowIs_drewN_alloc HR.out _ _).set l _).congr (fun x _ => cntF_step HC.out x)
                · exact (below_drewN (HB.out.alloc HB.out.size _) _).setCell (Nat.le_refl _) _
              case measure => simp [intOf]; omega
        · obtain rfl : n = k := by omega
          have HQ := hid_mk (show q = start (fun i => !M.down i) (lf M C) n (l + 1) from hq)
          have HR := hid_mk (hrow.congr (fun x _ => by rw [cntF_next]))
          have HB := hid_mk hb
          clear hq hrow hb
          go_wp2
          go_roundw
          case rel => exact ⟨l + 1, q, by omega, by go_num, rfl, HQ.out, HR.out, HB.out⟩
          case measure => simp [intOf]; omega
    · obtain rfl : C = l := by omega
      have hset := HSET.out.below hb
      have hFx := HF.out.below hb
      have hcr := hrow.congr (g := fun x => .int .i64 (cl (fun i => !M.down i) (lf M C) x n : Nat)) (fun x hx => by rw [cntF_end _ _ _ _ _ hx])
      have HB2 := hid_mk (HB.out.trans (hb.mono HB.out.size))
      clear hrow hb HSET HF HB
      go_wp2_with fail
      rw [← hCe] at hcr ⊢
      refine (live_calls fa fcap fb foff w10.heap.size HS.out hset hFx hn4 hcr).mono ?_
      rintro e w11 ⟨rfl, hb⟩
      go_wp2
      go_ret
      exact ⟨rfl, HB2.out.trans (hb.mono HB2.out.size)⟩
end Go.Proofs.Qxb6600905aMods
