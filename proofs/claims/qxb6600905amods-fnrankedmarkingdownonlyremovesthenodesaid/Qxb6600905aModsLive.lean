/-
  liveMatches: the live marks, found again by division.
-/
import Derived.Test.Qxb6600905aModsMade
namespace Go.Proofs.Qxb6600905aMods
open Go.RowKit

/-- The marks behind 'l' leaf clusters. -/
def mkB (occ : Nat → Bool) (p : Nat) : Nat → Nat → Bool
  | 0, _ => false
  | l + 1, v => mkB occ p l v || (occ l && decide (v = l / p))

theorem mkB_iff (occ : Nat → Bool) (p : Nat) : ∀ (l v : Nat), mkB occ p l v = true ↔ ∃ k, k < l ∧ occ k = true ∧ v = k / p
  | 0, v => by simp [mkB]
  | l + 1, v => by
    rw [mkB, Bool.or_eq_true, mkB_iff occ p l v, Bool.and_eq_true, decide_eq_true_iff]
    constructor
    · rintro (⟨k, h1, h2, h3⟩ | ⟨h1, h2⟩)
      · exact ⟨k, by omega, h2, h3⟩
      · exact ⟨l, by omega, h1, h2⟩
    · rintro ⟨k, h1, h2, h3⟩
      by_cases e : k = l
      · subst e; exact .inr ⟨h2, h3⟩
      · exact .inl ⟨k, by omega, h2, h3⟩

theorem mkB_yes {occ : Nat → Bool} {p l : Nat} (h : occ l = true) (v : Nat) : (if v = l / p then Value.bool true else Value.bool (mkB occ p l v)) = Value.bool (mkB occ p (l + 1) v) := by
  rw [mkB, h]
  by_cases e : v = l / p <;> simp [e]

theorem mkB_no {occ : Nat → Bool} {p l : Nat} (h : occ l = false) (v : Nat) : mkB occ p (l + 1) v = mkB occ p l v := by
  rw [mkB, h]; simp

theorem mkB_all (occ : Nat → Bool) (f : Nat → Nat) {T t v : Nat} (hp : 1 ≤ per f T t) {C : Nat} (hC : C = Pl.prodTo f (t + 1) * per f T t) (hv : v < Pl.prodTo f (t + 1)) :
    mkB occ (per f T t) C v = lvB occ f T t v := by
  rw [Bool.eq_iff_iff, mkB_iff]
  unfold lvB
  rw [anyFrom_iff]
  subst hC
  generalize per f T t = p at *
  generalize Pl.prodTo f (t + 1) = s at *
  constructor
  · rintro ⟨k, h1, h2, rfl⟩
    have := Nat.div_add_mod k p
    have hm := Nat.mod_lt k (show 0 < p by omega)
    rw [Nat.mul_comm] at this
    exact ⟨k, by omega, by omega, h2⟩
  · rintro ⟨k, h1, h2, h3⟩
    refine ⟨k, ?_, h3, ?_⟩
    · have := Nat.mul_le_mul_right p (show v + 1 ≤ s from hv)
      rw [Nat.add_mul] at this; omega
    · refine Nat.le_antisymm ((Nat.le_div_iff_mul_le (by omega)).2 h1) (Nat.lt_succ_iff.1 ((Nat.div_lt_iff_lt_mul (by omega)).2 ?_))
      rw [Nat.succ_mul]; exact h2

theorem size_per {f : Nat → Nat} {T t : Nat} (ht : t < T) : Pl.prodTo f T = Pl.prodTo f (t + 1) * per f T t := by
  unfold per
  rw [← Pl.prod_split]; congr 1; omega

theorem nat_quo {a b c : Nat} (h : a / b = c) : (a : Int) / (b : Int) = (c : Int) := by rw [← h, Int.natCast_ediv]

theorem SetIn.below {w w' : World} {sp n T : Nat} {M : Mems} {F : Nat → Int} {nd : Nat} {D : Nat → Int} {wtd : Bool} {mb nb wb bb g cap : Nat} {vb lb : Nat → Nat} {ni : Nat → ByteArray} {nn : Nat → Int} {wt : Nat → Nat}
    (h : SetIn w sp n T M F nd D wtd mb nb wb bb g cap vb lb ni nn wt) (hb : Below w.heap.size w w') : SetIn w' sp n T M F nd D wtd mb nb wb bb g cap vb lb ni nn wt :=
  ⟨kept_row h.set hb, h.tie.of_block (hb.block _ h.tie.lt), fun t ht => kept_row (h.vms t ht) hb, fun t ht => kept_row (h.live t ht) hb, kept_row h.bds hb, kept_row h.nod hb, fun e => kept_row (h.wts e) hb, h.eq⟩

set_option maxHeartbeats 1000000 in
set_option maxRecDepth 100000 in
theorem live_calls {w : World} {sp n T : Nat} {M : Mems} {F : Nat → Int} {nd : Nat} {D : Nat → Int} {wtd : Bool} {mb nb wb bb g cap : Nat} {vb lb : Nat → Nat} {ni : Nat → ByteArray} {nn : Nat → Int} {wt : Nat → Nat}
    (fa : Option Addr) (fcap fb foff cb : Nat) (hS : ShapeOk F T) (h : SetIn w sp n T M F nd D wtd mb nb wb bb g cap vb lb ni nn wt) (hF : IsRow w .i64 fa T fb foff F)
    (hn : n ≤ 4096) (hc : w.rowIs cb 3 (Pl.prodTo (fN F) T) (fun l => .int .i64 (cl (fun i => !M.down i) (lf M (Pl.prodTo (fN F) T)) l n : Nat))) :
    Calls Trym.prog 26 #[.pointer (some ⟨sp, 0, none⟩), .slice fa T fcap, .int .i64 (Pl.prodTo (fN F) T : Nat), .slice (some ⟨cb, 0, none⟩) (Pl.prodTo (fN F) T) (Pl.prodTo (fN F) T)] w fun e w' => e = .returned (.bool true) ∧ Below w.heap.size w w' := by
  have hT := hS.le
  obtain ⟨Z, hZ⟩ := made60
  obtain ⟨C, hC⟩ : ∃ C, C = Pl.prodTo (fN F) T := ⟨_, rfl⟩
  have hC0 : 1 ≤ C := by rw [hC]; exact Pl.prodTo_pos hS.one
  have hC1 : C ≤ 4096 := by rw [hC]; exact hS.prod
  obtain ⟨cf, hcf⟩ : ∃ cf : Nat → Nat, cf = fun l => cl (fun i => !M.down i) (lf M C) l n := ⟨_, rfl⟩
  have hcl : ∀ l, cf l ≤ 4096 := fun l => by rw [hcf]; exact Nat.le_trans (cl_le _ _ _ _) hn
  have hocc : ∀ l, occB (fun i => !M.down i) (lf M C) n l = decide (0 < cf l) := fun l => by rw [hcf]; rfl
  rw [← hC] at hc ⊢
  have hc' : w.rowIs cb 3 C (fun l => .int .i64 (cf l : Nat)) := by rw [hcf]; exact hc
  have hlive := h.live
  rw [← hC] at hlive
  generalize occB (fun i => !M.down i) (lf M C) n = occ at hocc hlive
  clear hc hcf
  go_enter Trym.func26, Trym.ntmps26
  go_wp2
  go_loopw [9, 10] (fun s i wr => ∃ t p : Nat, t ≤ T ∧ i = .int .i64 t ∧ s = .int .i64 p ∧ p = Pl.prodTo (fN F) t ∧ Below w.heap.size w wr) (fun _ i _ => T - (intOf i).toNat)
  case atStart => exact ⟨0, 1, Nat.zero_le _, rfl, rfl, rfl, Below.refl _ _⟩
  case round =>
    obtain ⟨t, p, ht, rfl, rfl, hp, hb⟩ := hrel
    by_cases hlt : t < T
    · have ha := hF.at_ hlt
      subst ha
      have hx1 := hS.one t hlt
      have hFt := hS.eq t hlt
      have c0 := (hF.below hb).cell t hlt
      rw [hFt] at c0
      have hpx : p * fN F t ≤ 4096 := by
        rw [hp, ← Pl.prodTo_succ]
        exact Nat.le_trans (Pl.prodTo_le (show t + 1 ≤ T from hlt) hS.one) hS.prod
      have hpp : 1 ≤ per (fN F) T t := Pl.prodFrom_pos (fun i hi => hS.one i (by omega))
      obtain ⟨s, hs⟩ : ∃ s, s = p * fN F t := ⟨_, rfl⟩
      have hss : (p : Int) * (fN F t : Int) = (s : Int) := by rw [hs]; simp
      have hsz : s = Pl.prodTo (fN F) (t + 1) := by rw [hs, hp, Pl.prodTo_succ]
      have hCs : C = Pl.prodTo (fN F) (t + 1) * per (fN F) T t := by rw [hC]; exact size_per hlt
      have hs1 : 1 ≤ s := by rw [hsz]; exact Pl.prodTo_pos (fun i hi => hS.one i (by omega))
      have hq : C / s = per (fN F) T t := by rw [hCs, hsz, Nat.mul_comm]; exact Nat.mul_div_cancel _ (by omega)
      rw [← hs] at hpx
      have HALL := hid_mk (fun v (hv : v < s) => mkB_all occ (fN F) hpp hCs (v := v) (by omega))
      have hqi := nat_quo hq
      have HCQ := hid_mk (show C = s * per (fN F) T t by rw [hsz]; exact hCs)
      have hpr : per (fN F) T t ≤ 4096 := by
        have := Nat.le_mul_of_pos_left (per (fN F) T t) (show 0 < s by omega)
        rw [← HCQ.out] at this; omega
      have HSZ := hid_mk hsz
      have HB := hid_mk hb
      have HSET := hid_mk (h.below hb)
      have hcr := kept_row hc' hb
      have hlv := kept_row (hlive t hlt) hb
      have hsF : szF F t = s := hsz.symm
      have hm60 := fun (W : World) => hZ.run s W (by omega)
      have hst := ((hZ.row1 wr s).congr (g := fun v => .bool (mkB occ (per (fN F) T t) 0 v)) (fun i _ => rfl))
      generalize hpg : per (fN F) T t = pr at *
      generalize fN F t = x at c0 hx1 hss
      clear hp hs hsz hC hCs hF hFt hq hlive hc' h hb hZ
      obtain ⟨w4, rfl⟩ : ∃ w4 : World, w4 = wr := ⟨_, rfl⟩
      go_wp2
      clear hm60 c0 hss hqi
      go_loopw [13] (fun i wx => ∃ l : Nat, l ≤ C ∧ i = .int .i64 l ∧ wx.rowIs w4.heap.size 4 s (fun v => .bool (mkB occ pr l v)) ∧ Below w4.heap.size w4 wx) (fun i _ => C - (intOf i).toNat)
      case atStart => exact ⟨0, Nat.zero_le _, rfl, hst, (Below.refl _ _).alloc (Nat.le_refl _) _⟩
      case round =>
        obtain ⟨l, hl, rfl, hrow, hbx⟩ := hrel
        clear hst
        by_cases hll : l < C
        · have d0 := (kept_row hcr hbx).cell hll
          have hlq : l / pr < s := (Nat.div_lt_iff_lt_mul (by omega)).2 (by rw [← HCQ.out]; exact hll)
          have hqi : (l : Int) / (pr : Int) = ((l / pr : Nat) : Int) := nat_quo rfl
          have hcl0 := hcl l
          by_cases ho : 0 < cf l
          · have hol : occ l = true := by rw [hocc]; simpa using ho
            have HR := hid_mk ((hrow.set (l / pr) (.bool true)).congr (fun v _ => mkB_yes hol v))
            have HBX := hid_mk (hbx.setCell (p := ⟨w4.heap.size, l / pr, none⟩) (Nat.le_refl _) (.bool true))
            have e0 := hrow.cell hlq
            have g0 := hrow.frozen (l / pr)
            generalize l / pr = z at *
            clear hrow hbx hcr hlv hol
            go_wp2
            go_roundw
            case rel => exact ⟨l + 1, by omega, by go_num, HR.out, HBX.out⟩
            case measure => simp [intOf]; omega
          · have hol : occ l = false := by rw [hocc]; simpa using ho
            have HR := hid_mk (hrow.congr (g := fun v => .bool (mkB occ pr (l + 1) v)) (fun v _ => by rw [mkB_no hol v]))
            have HBX := hid_mk hbx
            clear hrow hbx hcr hlv hol hqi hlq
            go_wp2
            go_roundw
            case rel => exact ⟨l + 1, by omega, by go_num, HR.out, HBX.out⟩
            case measure => simp [intOf]; omega
        · obtain rfl : C = l := by omega
          have hset := HSET.out.below hbx
          have hrw := hrow.congr (g := fun v => .bool (lvB occ (fN F) T t v)) (fun v hv => by rw [HALL.out v hv])
          have hlw := kept_row hlv hbx
          have HB2 := hid_mk (HB.out.trans (hbx.mono HB.out.size))
          clear hrow hlv hcr hbx hocc hcl HALL HB HSET
          obtain ⟨w5, rfl⟩ : ∃ w5 : World, w5 = wr := ⟨_, rfl⟩
          go_wp2_with fail
          refine (zzlive_calls hset t hlt).mono ?_
          rintro e w6 ⟨rfl, rfl⟩
          clear hset
          rw [hsF] at hlw ⊢
          go_wp2
          go_loopw [15] (fun i wx => ∃ v : Nat, v ≤ s ∧ i = .int .i64 v ∧ wx = w6) (fun i _ => s - (intOf i).toNat)
          case atStart => exact ⟨0, Nat.zero_le _, rfl, rfl⟩
          case round =>
            obtain ⟨v, hv, rfl, rfl⟩ := hrel
            by_cases hvl : v < s
            · have d0 := hrw.cell hvl
              have e0 := hlw.cell hvl
              clear hrw hlw
              cases hb : lvB occ (fN F) T t v with
              | true =>
                rw [hb] at d0 e0
                rw [liveV_true] at e0
                clear hb
                go_wp2
                go_roundw
                case rel => exact ⟨v + 1, by omega, by go_num, trivial⟩
                case measure => simp [intOf]; omega
              | false =>
                rw [hb] at d0 e0
                rw [liveV_false] at e0
                clear hb
                go_wp2
                go_roundw
                case rel => exact ⟨v + 1, by omega, by go_num, trivial⟩
                case measure => simp [intOf]; omega
            · clear hrw hlw
              go_wp2
              go_roundw
              case rel => exact ⟨t + 1, s, by omega, by go_num, rfl, HSZ.out, HB2.out⟩
              case measure => simp [intOf]; omega
    · clear hF hc'
      go_wp2
      go_ret
      exact ⟨rfl, hb⟩
end Go.Proofs.Qxb6600905aMods
