/-
  ranked, ZZRanked, ZZLeaf.
-/
import Derived.Test.Qxb6600905aModsLeaf
import Derived.OwnWalk
namespace Go.Proofs.Qxb6600905aMods
open Go.RowKit

set_option maxHeartbeats 400000 in
theorem zzleaf_calls {w : World} {sp n T : Nat} {M : Mems} {F : Nat → Int} {nd : Nat} {D : Nat → Int} {wtd : Bool} {mb nb wb bb g cap : Nat} {vb lb : Nat → Nat} {ni : Nat → ByteArray} {nn : Nat → Int} {wt : Nat → Nat}
    (km : Int) (hS : ShapeOk F T) (h : SetIn w sp n T M F nd D wtd mb nb wb bb g cap vb lb ni nn wt) :
    Calls Trym.prog 35 #[.pointer (some ⟨sp, 0, none⟩), .int .u64 km] w fun e w' => e = .returned (.int .i64 (leafOf km n M F T nd D : Nat)) ∧ Below w.heap.size w w' := by
  go_enter Trym.func35, Trym.ntmps35
  go_wp2_with fail
  refine (leaf_calls km hS h).mono ?_
  rintro e w1 ⟨rfl, hb⟩
  go_wp2
  go_ret
  exact ⟨rfl, hb⟩

theorem leafOf_lt {km : Int} {n : Nat} {M : Mems} {F : Nat → Int} {T nd : Nat} {D : Nat → Int} (hS : ShapeOk F T) : leafOf km n M F T nd D < Pl.prodTo (fN F) T := leafN_lt (fun t i => scT_pos _ _ _ _ t i) hS.one (Nat.le_refl _)

/-- The slice of weights that ranked answers. -/
def wsOf (wtd : Bool) (wb lo c cap : Nat) : Value := if wtd = true then .slice (some ⟨wb, lo, none⟩) c cap else .slice none 0 0

set_option maxHeartbeats 1000000 in
set_option maxRecDepth 100000 in
theorem ranked_calls {w : World} {sp n T : Nat} {M : Mems} {F : Nat → Int} {nd : Nat} {D : Nat → Int} {wtd : Bool} {mb nb wb bb g cap : Nat} {vb lb : Nat → Nat} {ni : Nat → ByteArray} {nn : Nat → Int} {wt : Nat → Nat}
    (km : Int) (hn : n ≤ 4096) (hS : ShapeOk F T) (h : SetIn w sp n T M F nd D wtd mb nb wb bb g cap vb lb ni nn wt) (l lo c up : Nat) (hl : l = leafOf km n M F T nd D)
    (hlo : lo = start (fun i => !M.down i) (lf M (Pl.prodTo (fN F) T)) n l) (hc : c = cl (fun i => !M.down i) (lf M (Pl.prodTo (fN F) T)) l n) (hup : up = Pl.cnt (fun i => !M.down i) n) (hc0 : 0 < c) :
    Calls Trym.prog 42 #[.pointer (some ⟨sp, 0, none⟩), .int .u64 km] w fun e w' => e = .returned (.tuple #[.slice (some ⟨nb, lo * 2, none⟩) c (up - lo), wsOf wtd wb lo c (up - lo)]) ∧ Below w.heap.size w w' := by
  have hT := hS.le
  have hT0 := hS.pos
  have hspl := h.set.lt
  have hlC : l < Pl.prodTo (fN F) T := by rw [hl]; exact leafOf_lt hS
  have hC1 := hS.prod
  have hC0 : 1 ≤ Pl.prodTo (fN F) T := Pl.prodTo_pos hS.one
  have hL : ∀ i, i < n → lf M (Pl.prodTo (fN F) T) i < Pl.prodTo (fN F) T := fun i _ => lf_lt (by omega)
  have c1 : w.cell? ⟨sp, 1, none⟩ = some (.slice (some ⟨nb, 0, none⟩) up up) := by rw [hup]; exact h.set.cell (i := 1) (by omega)
  have c5 : w.cell? ⟨sp, 5, none⟩ = some (.slice (some ⟨g, 0, none⟩) T cap) := h.set.cell (i := 5) (by omega)
  have c6 : w.cell? ⟨sp, 6, none⟩ = some (.slice (some ⟨bb, 0, none⟩) (Pl.prodTo (fN F) T + 1) (Pl.prodTo (fN F) T + 1)) := h.set.cell (i := 6) (by omega)
  have c2 := h.set.cell (i := 2) (by omega)
  have b0 : w.cell? ⟨bb, l, none⟩ = some (.int .i64 (lo : Nat)) := by rw [hlo]; exact h.bds.cell (i := l) (by omega)
  have b1 : w.cell? ⟨bb, l + 1, none⟩ = some (.int .i64 (lo + c : Nat)) := by
    have := h.bds.cell (i := l + 1) (by omega)
    rw [start_succ, ← hlo, ← hc] at this; exact this
  have hbl := h.bds.lt
  have hcu : lo + c ≤ up := by
    have := start_le (U := fun i => !M.down i) (L := lf M (Pl.prodTo (fN F) T)) (n := n) (show l + 1 ≤ Pl.prodTo (fN F) T from hlC)
    rw [start_all hL, start_succ, ← hlo, ← hc, ← hup] at this; exact this
  have hlou : lo < up := by omega
  have hupn : up ≤ 4096 := by have := Pl.cnt_le (fun i => !M.down i) n; omega
  have qn := fun (W : World) (x : Option Addr) (l c : Nat) => Lib.run_eql_slice_nil (P := Trym.prog) W 41 45 x l c 0 0 Trym.underlying41
  have HC := hid_mk (leaf_calls km hS h)
  rw [← hl] at HC
  clear h hL hlo hc hl
  generalize Pl.prodTo (fN F) T = C at *
  clear hS
  cases wtd with
  | true =>
    have c2' : w.cell? ⟨sp, 2, none⟩ = some (.slice (some ⟨wb, 0, none⟩) up up) := by rw [hup]; exact c2
    clear c2 hup
    go_enter Trym.func42, Trym.ntmps42
    go_wp2_with fail
    refine HC.out.mono ?_
    clear HC
    rintro e w1 ⟨rfl, hb⟩
    have d1 := (hb.cell (p := ⟨sp, 1, none⟩) hspl).trans c1
    have d2 := (hb.cell (p := ⟨sp, 2, none⟩) hspl).trans c2'
    have d6 := (hb.cell (p := ⟨sp, 6, none⟩) hspl).trans c6
    have e0 := (hb.cell (p := ⟨bb, l, none⟩) hbl).trans b0
    have e1 := (hb.cell (p := ⟨bb, l + 1, none⟩) hbl).trans b1
    have HB := hid_mk hb
    clear c1 c2' c5 c6 b0 b1 hb
    go_wp2
    go_quiet (fail)
    go_wp2
    go_quiet (fail)
    go_wp2
    go_ret2
    exact ⟨by rw [show lo + c - lo = c by omega]; rfl, below_drewN (below_drewN HB.out _) _⟩
  | false =>
    have c2' : w.cell? ⟨sp, 2, none⟩ = some (.slice none 0 0) := c2
    clear c2 hup
    go_enter Trym.func42, Trym.ntmps42
    go_wp2_with fail
    refine HC.out.mono ?_
    clear HC
    rintro e w1 ⟨rfl, hb⟩
    have d1 := (hb.cell (p := ⟨sp, 1, none⟩) hspl).trans c1
    have d2 := (hb.cell (p := ⟨sp, 2, none⟩) hspl).trans c2'
    have d6 := (hb.cell (p := ⟨sp, 6, none⟩) hspl).trans c6
    have e0 := (hb.cell (p := ⟨bb, l, none⟩) hbl).trans b0
    have e1 := (hb.cell (p := ⟨bb, l + 1, none⟩) hbl).trans b1
    have HB := hid_mk hb
    clear c1 c2' c5 c6 b0 b1 hb
    go_wp2
    go_quiet (fail)
    go_wp2
    go_ret2
    exact ⟨by rw [show lo + c - lo = c by omega]; rfl, below_drewN HB.out _⟩

set_option maxHeartbeats 1000000 in
set_option maxRecDepth 100000 in
theorem zzranked_calls {w : World} {sp n T : Nat} {M : Mems} {F : Nat → Int} {nd : Nat} {D : Nat → Int} {wtd : Bool} {mb nb wb bb g cap : Nat} {vb lb : Nat → Nat} {ni : Nat → ByteArray} {nn : Nat → Int} {wt : Nat → Nat}
    (km : Int) (hn : n ≤ 4096) (hS : ShapeOk F T) (h : SetIn w sp n T M F nd D wtd mb nb wb bb g cap vb lb ni nn wt) (l lo c up : Nat) (hl : l = leafOf km n M F T nd D)
    (hlo : lo = start (fun i => !M.down i) (lf M (Pl.prodTo (fN F) T)) n l) (hc : c = cl (fun i => !M.down i) (lf M (Pl.prodTo (fN F) T)) l n) (hup : up = Pl.cnt (fun i => !M.down i) n) (hc0 : 0 < c) :
    Calls Trym.prog 30 #[.pointer (some ⟨sp, 0, none⟩), .int .u64 km] w fun e w' =>
      ∃ ib, w.heap.size ≤ ib ∧ e = .returned (.tuple #[.slice (some ⟨ib, 0, none⟩) c c, .slice (some ⟨ib + 1, 0, none⟩) c c, wsOf wtd wb lo c (up - lo)]) ∧
        w'.rowIs ib 9 c (fun q => .string (ni (lo + q))) ∧ w'.rowIs (ib + 1) 22 c (fun q => .int .u64 (nn (lo + q))) ∧ Below w.heap.size w w' := by
  have hnod := h.nod
  have hcn : c ≤ n := by rw [hc]; exact cl_le _ _ _ _
  have hcu : lo + c ≤ up := by
    have hlC : l < Pl.prodTo (fN F) T := by rw [hl]; exact leafOf_lt hS
    have hL : ∀ i, i < n → lf M (Pl.prodTo (fN F) T) i < Pl.prodTo (fN F) T := fun i _ => lf_lt (by omega)
    have := start_le (U := fun i => !M.down i) (L := lf M (Pl.prodTo (fN F) T)) (n := n) (show l + 1 ≤ Pl.prodTo (fN F) T from hlC)
    rw [start_all hL, start_succ, ← hlo, ← hc, ← hup] at this; exact this
  rw [← hup] at hnod
  have HC := hid_mk (ranked_calls km hn hS h l lo c up hl hlo hc hup hc0)
  generalize wsOf wtd wb lo c (up - lo) = wsv at HC ⊢
  clear h hlo hc hup hl hS
  go_enter Trym.func30, Trym.ntmps30
  go_wp2_with fail
  refine HC.out.mono ?_
  clear HC
  rintro e w1 ⟨rfl, hb1⟩
  have hn1 := kept_row hnod hb1
  obtain ⟨Z38, hZ38⟩ := made38
  obtain ⟨Z23, hZ23⟩ := made23
  have hm38 := fun (W : World) => hZ38.run c W (by omega)
  have hm23 := fun (W : World) => hZ23.run c W (by omega)
  have e1 := (hZ38.row1 w1 c).congr (g := fun i => .string (if i < 0 then ni (lo + i) else ByteArray.empty)) (fun i _ => by simp)
  have e2 := (hZ23.row1 (w1.alloc (.cells (Z38 c) 9)) c).congr (g := fun i => .int .u64 (if i < 0 then nn (lo + i) else 0)) (fun i _ => by simp)
  simp only [World.size_alloc] at e2
  have HB1 := hid_mk hb1
  clear hb1 hnod
  go_wp2
  clear hm38 hm23
  go_loopw [26] (fun i wr => ∃ k : Nat, k ≤ c ∧ i = .int .i64 k ∧ wr.rowIs w1.heap.size 9 c (fun i => .string (if i < k then ni (lo + i) else ByteArray.empty)) ∧ wr.rowIs (w1.heap.size + 1) 22 c (fun i => .int .u64 (if i < k then nn (lo + i) else 0)) ∧ Below w1.heap.size w1 wr) (fun i _ => c - (intOf i).toNat)
  case atStart => exact ⟨0, Nat.zero_le _, rfl, e1.alloc _, e2, ((Below.refl _ _).alloc (Nat.le_refl _) _).alloc (by simp) _⟩
  case round =>
    obtain ⟨k, hk, rfl, r1, r2, hb⟩ := hrel
    clear e1 e2
    by_cases hlt : k < c
    · obtain ⟨n0, n1⟩ := node_cell (kept_row hn1 hb) (p := lo + k) (by omega)
      rw [show (lo + k) * 2 = lo * 2 + k * 2 by omega] at n0 n1
      have d1 := r1.cell hlt
      have d2 := r2.cell hlt
      have f1 := r1.frozen k
      have f2 := r2.frozen k
      have hnl := hn1.lt
      have HR1 := hid_mk (((r1.set k (.string (ni (lo + k)))).congr (fill_step Value.string (fun i => ni (lo + i)) ByteArray.empty k)).setOther (a := ⟨w1.heap.size + 1, k, none⟩) (by show w1.heap.size ≠ w1.heap.size + 1; omega) (.int .u64 (nn (lo + k))))
      have HR2 := hid_mk (((r2.setOther (a := ⟨w1.heap.size, k, none⟩) (by show w1.heap.size + 1 ≠ w1.heap.size; omega) (.string (ni (lo + k)))).set k (.int .u64 (nn (lo + k)))).congr (fill_step (Value.int .u64) (fun i => nn (lo + i)) 0 k))
      have HB := hid_mk ((hb.setCell (p := ⟨w1.heap.size, k, none⟩) (Nat.le_refl _) (.string (ni (lo + k)))).setCell (p := ⟨w1.heap.size + 1, k, none⟩) (by show _ ≤ w1.heap.size + 1; omega) (.int .u64 (nn (lo + k))))
      simp only [Nat.lt_irrefl, if_false] at d1 d2
      clear r1 r2 hb hn1 hZ38 hZ23
      go_wp2
      go_roundw
      case rel => exact ⟨k + 1, by omega, by go_num, HR1.out, HR2.out, HB.out⟩
      case measure => simp [intOf]; omega
    · obtain rfl : c = k := by omega
      have q1 := r1.congr (g := fun i => .string (ni (lo + i))) (fun i h => by rw [if_pos h])
      have q2 := r2.congr (g := fun i => .int .u64 (nn (lo + i))) (fun i h => by rw [if_pos h])
      clear r1 r2 hn1
      go_wp2
      go_ret3
      exact ⟨w1.heap.size, HB1.out.size, rfl, q1, q2, HB1.out.trans (hb.mono HB1.out.size)⟩
end Go.Proofs.Qxb6600905aMods
