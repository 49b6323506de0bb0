/-
  descend, walked.
-/
import Derived.Test.Qxb6600905aModsDown
namespace Go.Proofs.Qxb6600905aMods
open Go.RowKit

set_option maxHeartbeats 2000000 in
set_option maxRecDepth 100000 in
theorem descend_calls (a : Option Addr) (n cap b off : Nat) (M : Mems) (fa : Option Addr) (T fcap fb foff : Nat) (F : Nat → Int) (da : Option Addr) (nd dcap db doff : Nat) (D : Nat → Int) (km : Int) (w : World)
    (hn : n ≤ 4096) (hS : ShapeOk F T) (hnd : nd ≤ 1048576) (hsl : ∀ i, i < n → 0 ≤ M.slot i ∧ M.slot i ≤ 9223372036854775807) (hup : ∃ i, i < n ∧ M.down i = false)
    (hM : IsMems w a n b off M) (hF : IsRow w .i64 fa T fb foff F) (hD : IsRow w .u64 da nd db doff D) :
    Calls Trym.prog 31 #[.slice a n cap, .slice fa T fcap, .slice da nd dcap, .int .i64 (Pl.prodTo (fN F) T : Nat), .int .u64 km] w fun e w' => e = .returned (.int .i64 (leafOf km n M F T nd D : Nat)) ∧ Below w.heap.size w w' := by
  have hT := hS.le
  have hT0 := hS.pos
  have hC1 := hS.prod
  have hC0 : 1 ≤ Pl.prodTo (fN F) T := Pl.prodTo_pos hS.one
  have HOCC := hid_mk (occ_ex (C := Pl.prodTo (fN F) T) hC0 hup)
  have HLEAF : Hid (Path (lvB (occB (fun i => !M.down i) (lf M (Pl.prodTo (fN F) T)) n) (fN F) T) (scT km nd D (fN F)) (fN F) T (leafOf km n M F T nd D)) :=
    leafN_path (fun t i => scT_pos _ _ _ _ t i) hS.one rfl HOCC.out (Nat.le_refl _)
  generalize leafOf km n M F T nd D = lv at HLEAF ⊢
  obtain ⟨C, hC⟩ : ∃ C, C = Pl.prodTo (fN F) T := ⟨_, rfl⟩
  rw [← hC] at hC0 hC1 HOCC HLEAF ⊢
  have HC := hid_mk hC
  clear hup hC
  obtain ⟨Z, hZ⟩ := made60
  have hm60 := fun (W : World) => hZ.run C W (by omega)
  have hst := ((hZ.row1 w C).congr (g := fun l => .bool (decide (0 < cl (fun i => !M.down i) (lf M C) l 0))) (fun i _ => rfl))
  go_enter Trym.func31, Trym.ntmps31
  go_wp2
  clear hm60
  go_loopw [12] (fun i wr => ∃ k : Nat, k ≤ n ∧ i = .int .i64 k ∧ wr.rowIs w.heap.size 4 C (fun l => .bool (decide (0 < cl (fun i => !M.down i) (lf M C) l k))) ∧ Below w.heap.size w wr) (fun i _ => n - (intOf i).toNat)
  case atStart => exact ⟨0, Nat.zero_le _, rfl, hst, (Below.refl _ _).alloc (Nat.le_refl _) _⟩
  case round =>
    obtain ⟨k, hk, rfl, hrow, hb⟩ := hrel
    clear hst
    by_cases hlt : k < n
    · have ha := hM.at_ hlt
      subst ha
      have x3 := (hM.below hb).slot k hlt
      have x4 := (hM.below hb).down k hlt
      have hs1 := hsl k hlt
      have hm := lf_eq (M := M) (i := k) (C := C) (by omega)
      have hlC : lf M C k < C := lf_lt (by omega)
      have HB := hid_mk hb
      cases hd : M.down k with
      | true =>
        rw [hd] at x4
        have HR := hid_mk (hrow.congr (fun l _ => occ_skip (U := fun i => !M.down i) (L := lf M C) (k := k) (by simp [hd]) l))
        clear hd hrow hb hM hF hD
        go_wp2
        go_roundw
        case rel => exact ⟨k + 1, by omega, by go_num, HR.out, HB.out⟩
        case measure => simp [intOf]; omega
      | false =>
        rw [hd] at x4
        have HR := hid_mk ((hrow.set (lf M C k) (.bool true)).congr (fun l _ => occ_step (U := fun i => !M.down i) (L := lf M C) (k := k) (by simp [hd]) l))
        have HB2 := hid_mk (hb.setCell (p := ⟨w.heap.size, lf M C k, none⟩) (Nat.le_refl _) (.bool true))
        have c0 := hrow.cell hlC
        have c1 := hrow.frozen (lf M C k)
        generalize lf M C k = z at *
        clear hd hrow hb hM hF hD
        go_wp2
        go_roundw
        case rel => exact ⟨k + 1, by omega, by go_num, HR.out, HB2.out⟩
        case measure => simp [intOf]; omega
    · obtain rfl : n = k := by omega
      have hF2 := hF.below hb
      have hD2 := hD.below hb
      have hocc : wr.rowIs w.heap.size 4 C (fun l => .bool (occB (fun i => !M.down i) (lf M C) n l)) := hrow
      have HB := hid_mk hb
      clear hrow hb hM hF hD hsl
      generalize occB (fun i => !M.down i) (lf M C) n = occ at hocc HOCC HLEAF
      go_wp2
      go_loop [13, 14, 15, 16] (fun v s q i => ∃ t u p f : Nat, t ≤ T ∧ i = .int .i64 t ∧ v = .int .i64 u ∧ s = .int .i64 p ∧ q = .int .i64 f ∧ p = Pl.prodTo (fN F) t ∧ f = Pl.offTo (fN F) t ∧ Path (lvB occ (fN F) T) (scT km nd D (fN F)) (fN F) t u) (fun _ _ _ i => T - (intOf i).toNat)
      case atStart => exact ⟨0, 0, 1, 0, Nat.zero_le _, rfl, rfl, rfl, rfl, rfl, rfl, rfl⟩
      case round =>
        obtain ⟨t, u, p, fo, ht, rfl, rfl, rfl, rfl, hp, hfo, hpath⟩ := hrel
        by_cases hlt2 : t < T
        · have ha := hF2.at_ hlt2
          subst ha
          have hx1 := hS.one t hlt2
          have c0 := hF2.cell t hlt2
          rw [hS.eq t hlt2] at c0
          have hpx : p * fN F t ≤ 4096 := by
            rw [hp, ← Pl.prodTo_succ]
            exact Nat.le_trans (Pl.prodTo_le (show t + 1 ≤ T from hlt2) hS.one) hS.prod
          have hpp : 1 ≤ per (fN F) T t := Pl.prodFrom_pos (fun i hi => hS.one i (by omega))
          have hul : u * fN F t + fN F t ≤ p * fN F t := by
            have := Nat.mul_le_mul_right (fN F t) (show u + 1 ≤ p from by rw [hp]; exact hpath.lt)
            rw [Nat.add_mul, Nat.one_mul] at this; exact this
          have hfo2 : fo ≤ 49152 := by
            rw [hfo]
            have := Pl.offTo_le hS.one hS.prod (Nat.le_of_lt hlt2)
            have := Nat.mul_le_mul (show t ≤ 12 by omega) (Nat.le_refl 4096)
            omega
          obtain ⟨s, hs⟩ : ∃ s, s = p * fN F t := ⟨_, rfl⟩
          obtain ⟨bs, hbs⟩ : ∃ bs, bs = u * fN F t := ⟨_, rfl⟩
          have hss : (p : Int) * (fN F t : Int) = (s : Int) := by rw [hs]; simp
          have hbb : (u : Int) * (fN F t : Int) = (bs : Int) := by rw [hbs]; simp
          rw [← hs] at hpx hul
          rw [← hbs] at hul
          have hsz : s = Pl.prodTo (fN F) (t + 1) := by rw [hs, hp, Pl.prodTo_succ]
          have hs1 : 1 ≤ s := by omega
          have hCs : C = s * per (fN F) T t := by rw [HC.out, hsz]; exact size_per hlt2
          have hqi : (C : Int) / (s : Int) = (per (fN F) T t : Int) := nat_quo (by rw [hCs, Nat.mul_comm]; exact Nat.mul_div_cancel _ (by omega))
          have hpr : per (fN F) T t ≤ 4096 := by
            have := Nat.le_mul_of_pos_left (per (fN F) T t) (show 0 < s by omega)
            rw [← hCs] at this; omega
          have HCH : Hid (∃ d, d < fN F t ∧ lvB occ (fN F) T t (bs + d) = true) := by rw [hbs]; exact path_child hpath hlt2 hS.one HC.out.symm HOCC.out
          have HNEXT : Hid (∀ d, Best (fun d => lvB occ (fN F) T t (bs + d)) (fun d => scT km nd D (fN F) t (bs + d)) (fN F t) d → Path (lvB occ (fN F) T) (scT km nd D (fN F)) (fN F) (t + 1) (bs + d)) := by rw [hbs]; exact fun d hd => hpath.snoc hd
          have HSZ := hid_mk hsz
          have HOF := hid_mk (show fo + s = Pl.offTo (fN F) (t + 1) by rw [hfo, hsz, Pl.offTo_succ])
          have HLO : Hid (∀ c, c < s → c * per (fN F) T t + per (fN F) T t ≤ C) := by
            intro c hc
            have := Nat.mul_le_mul_right (per (fN F) T t) (show c + 1 ≤ s from hc)
            rw [Nat.add_mul, Nat.one_mul, ← hCs] at this; exact this
          have HSC : Hid (∀ c, sc km (dig nd D (fo + c)) = scT km nd D (fN F) t c) := fun c => by unfold scT; rw [hfo]
          have HLV : Hid (∀ c, anyFrom occ (c * per (fN F) T t) (per (fN F) T t) = lvB occ (fN F) T t c) := fun c => rfl
          generalize lvB occ (fN F) T t = o at HCH HNEXT HLV
          generalize scT km nd D (fN F) t = sf at HNEXT HSC
          generalize per (fN F) T t = pr at hpp hqi hpr HLO HLV
          generalize hxe : fN F t = x at c0 hx1 hss hbb hul HCH HNEXT
          have hx4 : x ≤ 4096 := by omega
          clear hp hfo hpath hs hbs hsz hCs hF2
          go_wp2
          clear c0 hss hbb hqi
          go_loop [20, 21, 22] (fun fd z c => ∃ c' : Nat, ∃ fd' : Bool, ∃ z' : Int, bs ≤ c' ∧ c' ≤ bs + x ∧ c = .int .i64 c' ∧ fd = .bool fd' ∧ z = .int .u64 z' ∧ Found o sf bs c' fd' z') (fun _ _ c => bs + x - (intOf c).toNat)
          case atStart => exact ⟨bs, false, 0, Nat.le_refl _, by omega, rfl, rfl, rfl, .inl ⟨rfl, rfl, fun e h1 h2 => by omega⟩⟩
          case round =>
            obtain ⟨c, fd, z, hc1, hc2, rfl, rfl, rfl, hfound⟩ := hrel
            by_cases hlc : c < bs + x
            · have hlo := HLO.out c (by omega)
              have hlv := HLV.out c
              have hsc := HSC.out c
              obtain ⟨lo, hloe⟩ : ∃ lo, lo = c * pr := ⟨_, rfl⟩
              have hmul : (c : Int) * (pr : Int) = (lo : Int) := by rw [hloe]; simp
              rw [← hloe] at hlo hlv
              clear hloe
              have HFD := hid_mk hfound
              have HOC := hid_mk hocc
              have HD2 := hid_mk hD2
              clear hfound hocc hD2
              go_wp2_with fail
              refine (any_calls w.heap.size C occ lo pr wr hC1 hlo HOC.out).mono ?_
              rintro e w2 ⟨rfl, rfl⟩
              rw [hlv]
              cases ho : o c with
              | false =>
                have HN := hid_mk (HFD.out.skip ho)
                clear hlv ho hsc
                go_wp2
                go_round
                case rel => exact ⟨c + 1, fd, z, by omega, by omega, by go_num, rfl, rfl, HN.out⟩
                case measure => simp [intOf]; omega
              | true =>
                clear hlv
                go_wp2_with fail
                refine (dig_callsI da nd dcap db doff D _ (fo + c) _ (by omega) hnd (by omega) HD2.out).mono ?_
                rintro e w3 ⟨rfl, rfl⟩
                go_wp2_with fail
                refine (v1_calls _ _ _).mono ?_
                rintro e w4 ⟨rfl, rfl⟩
                rw [hsc]
                clear hsc
                cases fd with
                | false =>
                  have HN := hid_mk (HFD.out.first hc1 ho)
                  clear ho
                  generalize sf c = x' at HN ⊢
                  go_wp2
                  go_round
                  case rel => exact ⟨c + 1, true, x', by omega, by omega, by go_num, rfl, rfl, HN.out⟩
                  case measure => simp [intOf]; omega
                | true =>
                  by_cases hz : z < sf c
                  · have HN := hid_mk (HFD.out.more hc1 ho hz)
                    clear ho
                    generalize sf c = x' at HN hz ⊢
                    go_wp2
                    go_round
                    case rel => exact ⟨c + 1, true, x', by omega, by omega, by go_num, rfl, rfl, HN.out⟩
                    case measure => simp [intOf]; omega
                  · have HN := hid_mk (HFD.out.less hz)
                    clear ho
                    generalize sf c = x' at hz ⊢
                    go_wp2
                    go_round
                    case rel => exact ⟨c + 1, true, z, by omega, by omega, by go_num, rfl, rfl, HN.out⟩
                    case measure => simp [intOf]; omega
            · obtain rfl : c = bs + x := by omega
              have HFD := hid_mk hfound
              clear hfound hc1 hc2 hlc
              go_wp2
              go_loop [24, 25] (fun nx c => ∃ c' : Nat, bs ≤ c' ∧ c' ≤ bs + x ∧ c = .int .i64 c' ∧ nx = .int .i64 bs ∧ ∀ e, bs ≤ e → e < c' → ¬ (o e = true ∧ sf e = z)) (fun _ c => bs + x - (intOf c).toNat)
              case atStart => exact ⟨bs, Nat.le_refl _, by omega, rfl, rfl, fun e h1 h2 => by omega⟩
              case round =>
                obtain ⟨c, hc1, hc2, rfl, rfl, hno⟩ := hrel
                by_cases hlc : c < bs + x
                · have hlo := HLO.out c (by omega)
                  have hlv := HLV.out c
                  have hsc := HSC.out c
                  obtain ⟨lo, hloe⟩ : ∃ lo, lo = c * pr := ⟨_, rfl⟩
                  have hmul : (c : Int) * (pr : Int) = (lo : Int) := by rw [hloe]; simp
                  rw [← hloe] at hlo hlv
                  clear hloe
                  have HNO := hid_mk hno
                  have HOC := hid_mk hocc
                  have HD2 := hid_mk hD2
                  clear hno hocc hD2
                  go_wp2_with fail
                  refine (any_calls w.heap.size C occ lo pr wr hC1 hlo HOC.out).mono ?_
                  rintro e w2 ⟨rfl, rfl⟩
                  rw [hlv]
                  have HNEW : Hid (¬ (o c = true ∧ sf c = z) → ∀ e, bs ≤ e → e < c + 1 → ¬ (o e = true ∧ sf e = z)) := by
                    intro g e h1 h2
                    by_cases y : e = c
                    · subst y; exact g
                    · exact HNO.out e h1 (by omega)
                  cases ho : o c with
                  | false =>
                    have HN := hid_mk (HNEW.out (fun g => by rw [ho] at g; cases g.1))
                    clear hlv ho hsc HNEW
                    go_wp2
                    go_round
                    case rel => exact ⟨c + 1, by omega, by omega, by go_num, rfl, HN.out⟩
                    case measure => simp [intOf]; omega
                  | true =>
                    clear hlv
                    go_wp2_with fail
                    refine (dig_callsI da nd dcap db doff D _ (fo + c) _ (by omega) hnd (by omega) HD2.out).mono ?_
                    rintro e w3 ⟨rfl, rfl⟩
                    go_wp2_with fail
                    refine (v1_calls _ _ _).mono ?_
                    rintro e w4 ⟨rfl, rfl⟩
                    rw [hsc]
                    clear hsc
                    by_cases hz : sf c = z
                    · have HP := hid_mk (HNEXT.out (c - bs) (found_best HFD.out HCH.out hc1 hlc ho hz HNO.out))
                      rw [show bs + (c - bs) = c by omega] at HP
                      clear ho HNEW
                      rw [hz]
                      go_wp2
                      go_round
                      case rel => exact ⟨t + 1, c, s, fo + s, by omega, by go_num, rfl, rfl, by go_num, HSZ.out, HOF.out, HP.out⟩
                      case measure => simp [intOf]; omega
                    · have HN := hid_mk (HNEW.out (fun g => hz g.2))
                      have hz' : (sf c == z) = false := by simpa using hz
                      clear ho HNEW
                      generalize sf c = x' at hz' hz ⊢
                      go_wp2
                      go_round
                      case rel => exact ⟨c + 1, by omega, by omega, by go_num, rfl, HN.out⟩
                      case measure => simp [intOf]; omega
                · obtain rfl : c = bs + x := by omega
                  exact (found_some HFD.out HCH.out hno).elim
        · obtain rfl : T = t := by omega
          have HE := hid_mk (hpath.unique HLEAF.out)
          clear hp hfo hpath hocc hF2 hD2
          go_wp2
          go_ret
          exact ⟨by rw [← HE.out]; rfl, HB.out⟩
end Go.Proofs.Qxb6600905aMods
