/-
  What ZZRanked answers, told in one record; rankedMatchesCluster for both kinds of set.
-/
import Derived.Test.Qxb6600905aModsMatch
import Derived.Test.Qxb6600905aModsDown
namespace Go.Proofs.Qxb6600905aMods
open Go.RowKit

/-- The key's list: the members up of leaf cluster 'l', in their order. -/
structure RankIs (w : World) (n : Nat) (M : Mems) (C l : Nat) (wtd : Bool) (ib wb wo c : Nat) (ids : Nat → ByteArray) (nms : Nat → Int) (ws : Nat → Nat) : Prop where
  len : c = cl (fun i => !M.down i) (lf M C) l n
  r1 : w.rowIs ib 9 c (fun q => .string (ids q))
  r2 : w.rowIs (ib + 1) 22 c (fun q => .int .u64 (nms q))
  hw : wtd = true → ∀ q, q < c → w.cell? ⟨wb, wo + q, none⟩ = some (.float .f64 (ws q))
  hwb : wtd = true → wb < w.heap.size
  eq : ∀ i, i < n → M.down i = false → lf M C i = l → EqAt M ids nms ws wtd i (cl (fun i => !M.down i) (lf M C) l i)

theorem RankIs.below {w w' : World} {n : Nat} {M : Mems} {C l : Nat} {wtd : Bool} {ib wb wo c : Nat} {ids : Nat → ByteArray} {nms : Nat → Int} {ws : Nat → Nat} (h : RankIs w n M C l wtd ib wb wo c ids nms ws) (hb : Below w.heap.size w w') :
    RankIs w' n M C l wtd ib wb wo c ids nms ws :=
  ⟨h.len, kept_row h.r1 hb, kept_row h.r2 hb, fun e q hq => (hb.cell (p := ⟨wb, wo + q, none⟩) (h.hwb e)).trans (h.hw e q hq), fun e => Nat.lt_of_lt_of_le (h.hwb e) hb.size, h.eq⟩

/-- The three slices that ZZRanked answers. -/
def rankTuple (wtd : Bool) (ib wb wo c wcap : Nat) : Value := .tuple #[.slice (some ⟨ib, 0, none⟩) c c, .slice (some ⟨ib + 1, 0, none⟩) c c, wsOf wtd wb wo c wcap]

theorem leaf_occ {km : Int} {n : Nat} {M : Mems} {F : Nat → Int} {T nd : Nat} {D : Nat → Int} (hS : ShapeOk F T) (hup : ∃ i, i < n ∧ M.down i = false) :
    Path (lvB (occB (fun i => !M.down i) (lf M (Pl.prodTo (fN F) T)) n) (fN F) T) (scT km nd D (fN F)) (fN F) T (leafOf km n M F T nd D) ∧ occB (fun i => !M.down i) (lf M (Pl.prodTo (fN F) T)) n (leafOf km n M F T nd D) = true := by
  have hC0 : 1 ≤ Pl.prodTo (fN F) T := Pl.prodTo_pos hS.one
  have hp : Path (lvB (occB (fun i => !M.down i) (lf M (Pl.prodTo (fN F) T)) n) (fN F) T) (scT km nd D (fN F)) (fN F) T (leafOf km n M F T nd D) :=
    leafN_path (fun t i => scT_pos _ _ _ _ t i) hS.one rfl (occ_ex hC0 hup) (Nat.le_refl _)
  exact ⟨hp, path_occ hS.pos hp⟩

theorem occB_iff {U : Nat → Bool} {L : Nat → Nat} {n l : Nat} : occB U L n l = true ↔ 0 < cl U L l n := by unfold occB; rw [decide_eq_true_iff]

theorem zzrank_calls {w : World} {sp n T : Nat} {M : Mems} {F : Nat → Int} {nd : Nat} {D : Nat → Int} {wtd : Bool} {mb nb wb bb g cap : Nat} {vb lb : Nat → Nat} {ni : Nat → ByteArray} {nn : Nat → Int} {wt : Nat → Nat}
    (km : Int) (hn : n ≤ 4096) (hS : ShapeOk F T) (hup : ∃ i, i < n ∧ M.down i = false) (h : SetIn w sp n T M F nd D wtd mb nb wb bb g cap vb lb ni nn wt) :
    Calls Trym.prog 30 #[.pointer (some ⟨sp, 0, none⟩), .int .u64 km] w fun e w' =>
      ∃ ib wb wo c wcap ids nms ws, e = .returned (rankTuple wtd ib wb wo c wcap) ∧ RankIs w' n M (Pl.prodTo (fN F) T) (leafOf km n M F T nd D) wtd ib wb wo c ids nms ws ∧ Below w.heap.size w w' := by
  obtain ⟨_, hocc⟩ := leaf_occ (km := km) (nd := nd) (D := D) hS hup
  have hc0 := occB_iff.1 hocc
  have hL : ∀ i, i < n → lf M (Pl.prodTo (fN F) T) i < Pl.prodTo (fN F) T := fun i _ => lf_lt (by have := Pl.prodTo_pos hS.one; omega)
  have hcu : start (fun i => !M.down i) (lf M (Pl.prodTo (fN F) T)) n (leafOf km n M F T nd D) + cl (fun i => !M.down i) (lf M (Pl.prodTo (fN F) T)) (leafOf km n M F T nd D) n ≤ Pl.cnt (fun i => !M.down i) n := by
    have := start_le (U := fun i => !M.down i) (L := lf M (Pl.prodTo (fN F) T)) (n := n) (show leafOf km n M F T nd D + 1 ≤ Pl.prodTo (fN F) T from leafOf_lt hS)
    rw [start_all hL, start_succ] at this; exact this
  refine (zzranked_calls km hn hS h _ _ _ _ rfl rfl rfl rfl hc0).mono ?_
  rintro e w' ⟨ib, _, rfl, r1, r2, hb⟩
  have h' := h.below hb
  refine ⟨ib, wb, start (fun i => !M.down i) (lf M (Pl.prodTo (fN F) T)) n (leafOf km n M F T nd D), _, _, _, _, fun q => wt (start (fun i => !M.down i) (lf M (Pl.prodTo (fN F) T)) n (leafOf km n M F T nd D) + q), rfl, ⟨rfl, r1, r2, fun e q hq => ?_, fun e => ?_, fun i hi hd hl => ?_⟩, hb⟩
  · exact (h'.wts e).cell (by omega)
  · exact (h'.wts e).lt
  · have := h.eq i hi hd
    unfold pos at this
    rw [hl] at this
    exact this

theorem match_calls (a : Option Addr) (n cap b off : Nat) (M : Mems) (C l c ib wb wo wcap : Nat) (wtd : Bool) (ids : Nat → ByteArray) (nms : Nat → Int) (ws : Nat → Nat) (w : World) (hn : n ≤ 4096) (hC0 : 1 ≤ C) (hC1 : C ≤ 4096)
    (hsl : ∀ i, i < n → 0 ≤ M.slot i ∧ M.slot i ≤ 9223372036854775807) (hM : IsMems w a n b off M) (h : RankIs w n M C l wtd ib wb wo c ids nms ws) :
    Calls Trym.prog 32 #[.slice a n cap, .int .i64 C, .int .i64 l, .bool wtd, .slice (some ⟨ib, 0, none⟩) c c, .slice (some ⟨ib + 1, 0, none⟩) c c, wsOf wtd wb wo c wcap] w fun e w' => e = .returned (.bool true) ∧ Below w.heap.size w w' := by
  cases wtd with
  | true => exact match_true a n cap b off M C l c ib (ib + 1) wb wo wcap ids nms ws w hn hC0 hC1 hsl hM h.r1 h.r2 (h.hw rfl) (h.hwb rfl) h.len h.eq
  | false => exact match_false a n cap b off M C l c ib (ib + 1) wb wo wcap ids nms ws w hn hC0 hC1 hsl hM h.r1 h.r2 h.len h.eq
end Go.Proofs.Qxb6600905aMods
