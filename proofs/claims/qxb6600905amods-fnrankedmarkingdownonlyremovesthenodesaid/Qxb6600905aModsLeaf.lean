/-
  leaf: the leaf cluster that the key descends to.
-/
import Derived.Test.Qxb6600905aModsLive
import Derived.Test.Qxb6600905aModsHigh
namespace Go.Proofs.Qxb6600905aMods
open Go.RowKit

/-- The virtual node reached above tier 't'. -/
def leafN (o : Nat → Nat → Bool) (s : Nat → Nat → Int) (f : Nat → Nat) : Nat → Nat
  | 0 => 0
  | t + 1 => leafN o s f t * f t + hi (fun d => o t (leafN o s f t * f t + d)) (fun d => s t (leafN o s f t * f t + d)) (f t)

theorem leafN_succ (o : Nat → Nat → Bool) (s : Nat → Nat → Int) (f : Nat → Nat) (t : Nat) :
    leafN o s f (t + 1) = leafN o s f t * f t + hi (fun d => o t (leafN o s f t * f t + d)) (fun d => s t (leafN o s f t * f t + d)) (f t) := rfl

theorem leafN_lt {o : Nat → Nat → Bool} {s : Nat → Nat → Int} {f : Nat → Nat} (hs : ∀ t i, 0 ≤ s t i) {T : Nat} (hf : ∀ i, i < T → 1 ≤ f i) : ∀ {t : Nat}, t ≤ T → leafN o s f t < Pl.prodTo f t
  | 0, _ => Nat.zero_lt_one
  | t + 1, h => by
    have ih := leafN_lt (o := o) hs hf (show t ≤ T by omega)
    have hd := hi_lt (o := fun d => o t (leafN o s f t * f t + d)) (s := fun d => s t (leafN o s f t * f t + d)) (fun i => hs t _) (hf t (by omega))
    rw [leafN_succ, Pl.prodTo_succ]
    have := Nat.mul_le_mul_right (f t) (show leafN o s f t + 1 ≤ Pl.prodTo f t from ih)
    rw [Nat.add_mul] at this
    omega

theorem leafN_path {occ : Nat → Bool} {s : Nat → Nat → Int} {f : Nat → Nat} {T C : Nat} (hs : ∀ t i, 0 ≤ s t i) (hf : ∀ i, i < T → 1 ≤ f i) (hC : Pl.prodTo f T = C) (hocc : ∃ l, l < C ∧ occ l = true) :
    ∀ {t : Nat}, t ≤ T → Path (lvB occ f T) s f t (leafN (lvB occ f T) s f t)
  | 0, _ => rfl
  | t + 1, h => by
    have ih := leafN_path hs hf hC hocc (show t ≤ T by omega)
    exact ih.snoc (hi_best (fun i => hs t _) (path_child ih (by omega) hf hC hocc))

/-- The score of a virtual node. -/
def scT (km : Int) (nd : Nat) (D : Nat → Int) (f : Nat → Nat) (t c : Nat) : Int := sc km (dig nd D (Pl.offTo f t + c))

theorem scT_pos (km : Int) (nd : Nat) (D : Nat → Int) (f : Nat → Nat) (t c : Nat) : 0 ≤ scT km nd D f t c := (sc_bound _ _).1

/-- The leaf cluster of the key. -/
def leafOf (km : Int) (n : Nat) (M : Mems) (F : Nat → Int) (T nd : Nat) (D : Nat → Int) : Nat :=
  leafN (lvB (occB (fun i => !M.down i) (lf M (Pl.prodTo (fN F) T)) n) (fN F) T) (scT km nd D (fN F)) (fN F) T

set_option maxHeartbeats 1000000 in
set_option maxRecDepth 100000 in
theorem leaf_calls {w : World} {sp n T : Nat} {M : Mems} {F : Nat → Int} {nd : Nat} {D : Nat → Int} {wtd : Bool} {mb nb wb bb g cap : Nat} {vb lb : Nat → Nat} {ni : Nat → ByteArray} {nn : Nat → Int} {wt : Nat → Nat}
    (km : Int) (hS : ShapeOk F T) (h : SetIn w sp n T M F nd D wtd mb nb wb bb g cap vb lb ni nn wt) :
    Calls Trym.prog 44 #[.pointer (some ⟨sp, 0, none⟩), .int .u64 km] w fun e w' => e = .returned (.int .i64 (leafOf km n M F T nd D : Nat)) ∧ Below w.heap.size w w' := by
  have hT := hS.le
  have c5 : w.cell? ⟨sp, 5, none⟩ = some (.slice (some ⟨g, 0, none⟩) T cap) := h.set.cell (i := 5) (by omega)
  have hspl := h.set.lt
  have hgl := h.tie.lt
  have htie := h.tie
  have hvms := h.vms
  have hlive := h.live
  unfold leafOf
  generalize occB (fun i => !M.down i) (lf M (Pl.prodTo (fN F) T)) n = occ at hlive
  have hllt : ∀ t, t ≤ T → leafN (lvB occ (fN F) T) (scT km nd D (fN F)) (fN F) t < Pl.prodTo (fN F) t := fun t ht => leafN_lt (fun t i => scT_pos _ _ _ _ t i) hS.one ht
  clear h
  go_enter Trym.func44, Trym.ntmps44
  go_wp2
  go_loopw [5, 14] (fun v i wr => ∃ t u : Nat, t ≤ T ∧ i = .int .i64 t ∧ v = .int .i64 u ∧ u = leafN (lvB occ (fN F) T) (scT km nd D (fN F)) (fN F) t ∧ Below w.heap.size w wr) (fun _ i _ => T - (intOf i).toNat)
  case atStart => exact ⟨0, 0, Nat.zero_le _, rfl, rfl, rfl, Below.refl _ _⟩
  case round =>
    obtain ⟨t, u, ht, rfl, rfl, hu, hb⟩ := hrel
    by_cases hlt : t < T
    · have d5 := (hb.cell (p := ⟨sp, 5, none⟩) hspl).trans c5
      have d0 := (hb.cell (p := ⟨g, t * 3, none⟩) hgl).trans (htie.fan hlt)
      have d1 := (hb.cell (p := ⟨g, t * 3 + 1, none⟩) hgl).trans (htie.vm hlt)
      have d2 : wr.cell? ⟨g, t * 3 + 2, none⟩ = some (.slice (some ⟨lb t, 0, none⟩) (szF F t) (szF F t)) := (hb.cell (p := ⟨g, t * 3 + 2, none⟩) hgl).trans (htie.liv hlt)
      have hx1 := hS.one t hlt
      rw [hS.eq t hlt] at d0
      have hsz : szF F t ≤ 4096 := Nat.le_trans (Pl.prodTo_le (show t + 1 ≤ T from hlt) hS.one) hS.prod
      have hroom : u * fN F t + fN F t ≤ szF F t := by
        have := Nat.mul_le_mul_right (fN F t) (show u + 1 ≤ Pl.prodTo (fN F) t from by rw [hu]; exact hllt t ht)
        rw [Nat.add_mul, Nat.one_mul] at this
        exact this
      have hv : ∀ i, i < fN F t → wr.cell? ⟨vb t, u * fN F t + i, none⟩ = some (.int .u64 (dig nd D (Pl.offTo (fN F) t + (u * fN F t + i)))) := fun i hi => (kept_row (hvms t hlt) hb).cell (i := u * fN F t + i) (by omega)
      have hl : ∀ i, i < fN F t → wr.cell? ⟨lb t, u * fN F t + i, none⟩ = some (.int .u64 (liveV (lvB occ (fN F) T t (u * fN F t + i)))) := fun i hi => (kept_row (hlive t hlt) hb).cell (i := u * fN F t + i) (by omega)
      have HN := hid_mk (leafN_succ (lvB occ (fN F) T) (scT km nd D (fN F)) (fN F) t)
      rw [← hu] at HN
      have HN2 : Hid (leafN (lvB occ (fN F) T) (scT km nd D (fN F)) (fN F) (t + 1) = u * fN F t + hi (fun d => lvB occ (fN F) T t (u * fN F t + d)) (fun i => sc km (dig nd D (Pl.offTo (fN F) t + (u * fN F t + i)))) (fN F t)) := HN
      have hhi := hi_lt (o := fun d => lvB occ (fN F) T t (u * fN F t + d)) (s := fun i => sc km (dig nd D (Pl.offTo (fN F) t + (u * fN F t + i)))) (fun i => (sc_bound _ _).1) hx1
      obtain ⟨bs, hbs⟩ : ∃ bs, bs = u * fN F t := ⟨_, rfl⟩
      have hmul : (u : Int) * (fN F t : Int) = (bs : Int) := by rw [hbs]; simp
      rw [← hbs] at hv hl hroom HN2 hhi
      have HB := hid_mk hb
      have hx4 : fN F t ≤ 4096 := by omega
      have hgt : t < cap := Nat.lt_of_lt_of_le hlt htie.room
      have HV : Hid (∀ i, i < fN F t → wr.cell? ⟨vb t, bs + i, none⟩ = some (.int .u64 (dig nd D (Pl.offTo (fN F) t + (bs + i))))) := hv
      have HL : Hid (∀ i, i < fN F t → wr.cell? ⟨lb t, bs + i, none⟩ = some (.int .u64 (liveV (lvB occ (fN F) T t (bs + i))))) := hl
      generalize hxe : fN F t = x at d0 hx1 hmul hroom HN2 hhi hx4 HV HL
      generalize szF F t = sz at d1 d2 hsz hroom
      clear hv hl hb hbs HN hllt hvms hlive htie c5 hu
      go_wp2
      go_quiet ((go_at_call 37; exact Calls.quiet_of (highest_calls km x (vb t) (lb t) bs _ _ _ _ _ hx1 hx4 (by omega) (by omega) HV.out HL.out)))
      generalize hhg : hi (fun d => lvB occ (fN F) T t (bs + d)) (fun i => sc km (dig nd D (Pl.offTo (fN F) t + (bs + i)))) x = hh at hhi ⊢
      go_wp2
      go_roundw
      case rel => exact ⟨t + 1, bs + hh, by omega, by go_num, by go_num, by rw [HN2.out, hhg], below_drewN HB.out _⟩
      case measure => simp [intOf]; omega
    · obtain rfl : T = t := by omega
      clear hvms hlive htie
      go_wp2
      go_ret
      exact ⟨by rw [hu]; rfl, hb⟩
end Go.Proofs.Qxb6600905aMods
