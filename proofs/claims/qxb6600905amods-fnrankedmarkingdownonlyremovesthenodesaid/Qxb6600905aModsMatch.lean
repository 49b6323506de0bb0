/-
  rankedMatchesCluster: the list of the key's own cluster.
-/
import Derived.Test.Qxb6600905aModsRanked
namespace Go.Proofs.Qxb6600905aMods
open Go.RowKit
attribute [local go_sem] run_store_float

set_option maxHeartbeats 1000000 in
set_option maxRecDepth 100000 in
theorem match_true (a : Option Addr) (n cap b off : Nat) (M : Mems) (C l c ib jb wb wo wcap : Nat) (ids : Nat → ByteArray) (nms : Nat → Int) (ws : Nat → Nat) (w : World) (hn : n ≤ 4096) (hC0 : 1 ≤ C) (hC1 : C ≤ 4096)
    (hsl : ∀ i, i < n → 0 ≤ M.slot i ∧ M.slot i ≤ 9223372036854775807) (hM : IsMems w a n b off M) (r1 : w.rowIs ib 9 c (fun q => .string (ids q))) (r2 : w.rowIs jb 22 c (fun q => .int .u64 (nms q)))
    (hw : ∀ q, q < c → w.cell? ⟨wb, wo + q, none⟩ = some (.float .f64 (ws q))) (hwb : wb < w.heap.size) (hc : c = cl (fun i => !M.down i) (lf M C) l n) (heq : ∀ i, i < n → M.down i = false → lf M C i = l → EqAt M ids nms ws true i (cl (fun i => !M.down i) (lf M C) l i)) :
    Calls Trym.prog 32 #[.slice a n cap, .int .i64 C, .int .i64 l, .bool true, .slice (some ⟨ib, 0, none⟩) c c, .slice (some ⟨jb, 0, none⟩) c c, wsOf true wb wo c wcap] w fun e w' => e = .returned (.bool true) ∧ Below w.heap.size w w' := by
  show Calls Trym.prog 32 #[.slice a n cap, .int .i64 C, .int .i64 l, .bool true, .slice (some ⟨ib, 0, none⟩) c c, .slice (some ⟨jb, 0, none⟩) c c, .slice (some ⟨wb, wo, none⟩) c wcap] w _
  have qn := fun (W : World) (x : Option Addr) (l c : Nat) => Lib.run_eql_slice_nil (P := Trym.prog) W 41 45 x l c 0 0 Trym.underlying41
  go_enter Trym.func32, Trym.ntmps32
  go_wp2_with fail
  refine (upin_calls a n cap b off M C l w (by omega) (by omega) hC1 (fun i hi => (hsl i hi).1) (fun i hi => (hsl i hi).2) hM).mono ?_
  rintro e w1 ⟨rfl, rfl⟩
  have hc' : Pl.cnt (inB (fun i => !M.down i) (lf M C) l) n = c := hc.symm
  rw [hc']
  have HC := hid_mk hc
  have hcn : c ≤ n := by rw [hc]; exact cl_le _ _ _ _
  clear hc hc'
  go_wp2
  clear qn
  go_loopw [16, 17] (fun p i wr => ∃ k q : Nat, k ≤ n ∧ i = .int .i64 k ∧ p = .int .i64 q ∧ q = cl (fun i => !M.down i) (lf M C) l k ∧ Below w1.heap.size w1 wr) (fun _ i _ => n - (intOf i).toNat)
  case atStart => exact ⟨0, 0, Nat.zero_le _, rfl, rfl, rfl, Below.refl _ _⟩
  case round =>
    obtain ⟨k, q, hk, rfl, rfl, hq, hb⟩ := hrel
    by_cases hkn : k < n
    · have ha := hM.at_ hkn
      subst ha
      have hMx := hM.below hb
      have x0 := hMx.id k hkn
      have x1 := hMx.nm k hkn
      have x2 := hMx.wt k hkn
      have x3 := hMx.slot k hkn
      have x4 := hMx.down k hkn
      have HB := hid_mk hb
      cases hd : M.down k with
      | true =>
        have hcl : cl (fun i => !M.down i) (lf M C) l (k + 1) = cl (fun i => !M.down i) (lf M C) l k := cl_no (fun g => by have := g.1; simp [hd] at this)
        have HQ := hid_mk (show q = cl (fun i => !M.down i) (lf M C) l (k + 1) by rw [hcl]; exact hq)
        rw [hd] at x4
        clear hd hcl hq hb hMx hM r1 r2 heq hw
        go_wp2
        go_roundw
        case rel => exact ⟨k + 1, q, by omega, by go_num, rfl, HQ.out, HB.out.alloc HB.out.size _⟩
        case measure => simp [intOf]; omega
      | false =>
        rw [hd] at x4
        have hs1 := hsl k hkn
        have hm := lf_eq (M := M) (i := k) (C := C) (by omega)
        by_cases hj : lf M C k = l
        case neg =>
          have hcl : cl (fun i => !M.down i) (lf M C) l (k + 1) = cl (fun i => !M.down i) (lf M C) l k := cl_no (fun g => hj g.2)
          have HQ := hid_mk (show q = cl (fun i => !M.down i) (lf M C) l (k + 1) by rw [hcl]; exact hq)
          have hj' : (((lf M C k : Nat) : Int) == (l : Int)) = false := by simp; omega
          generalize lf M C k = z at hm hj'
          clear hd hcl hq hb hMx hM hj r1 r2 heq hw
          go_wp2
          go_roundw
          case rel => exact ⟨k + 1, q, by omega, by go_num, rfl, HQ.out, HB.out.alloc HB.out.size _⟩
          case measure => simp [intOf]; omega
        case pos =>
          have hcl : cl (fun i => !M.down i) (lf M C) l (k + 1) = cl (fun i => !M.down i) (lf M C) l k + 1 := cl_yes (by simp [hd]) hj
          have hqc : q < c := by rw [hq, HC.out]; exact Pl.cnt_lt hkn (by simp [inB, hd, hj])
          obtain ⟨e0, e1, e2⟩ := heq k hkn hd hj
          have e3 := e2 rfl
          rw [← hq] at e0 e1 e3
          have y0 := (kept_row r1 hb).cell hqc
          have y1 := (kept_row r2 hb).cell hqc
          have y2 := (hb.cell (p := ⟨wb, wo + q, none⟩) hwb).trans (hw q hqc)
          rw [e0] at y0
          rw [e1] at y1
          rw [e3] at y2
          have y0l := (kept_row r1 hb).lt
          have y1l := (kept_row r2 hb).lt
          have y2l := Nat.lt_of_lt_of_le hwb hb.size
          have HQ := hid_mk (show q + 1 = cl (fun i => !M.down i) (lf M C) l (k + 1) by rw [hcl, hq])
          rw [hj] at hm
          clear hd hcl hq hb hMx hM hj e0 e1 e2 heq r1 r2 e3 hw
          go_wp2
          go_quiet (fail)
          go_wp2
          go_quiet ((go_at_call 25; exact (same_calls _ _).mono (fun _ _ h => ⟨h.1, _, h.2⟩)))
          go_wp2
          go_roundw
          case rel => exact ⟨k + 1, q + 1, by omega, by go_num, by go_num, HQ.out, below_drewN (HB.out.alloc HB.out.size _) _⟩
          case measure => simp [intOf]; omega
    · clear hM r1 r2 heq hw hq
      go_wp2
      go_ret
      exact ⟨rfl, hb⟩

set_option maxHeartbeats 1000000 in
set_option maxRecDepth 100000 in
theorem match_false (a : Option Addr) (n cap b off : Nat) (M : Mems) (C l c ib jb wb wo wcap : Nat) (ids : Nat → ByteArray) (nms : Nat → Int) (ws : Nat → Nat) (w : World) (hn : n ≤ 4096) (hC0 : 1 ≤ C) (hC1 : C ≤ 4096)
    (hsl : ∀ i, i < n → 0 ≤ M.slot i ∧ M.slot i ≤ 9223372036854775807) (hM : IsMems w a n b off M) (r1 : w.rowIs ib 9 c (fun q => .string (ids q))) (r2 : w.rowIs jb 22 c (fun q => .int .u64 (nms q)))
    (hc : c = cl (fun i => !M.down i) (lf M C) l n) (heq : ∀ i, i < n → M.down i = false → lf M C i = l → EqAt M ids nms ws false i (cl (fun i => !M.down i) (lf M C) l i)) :
    Calls Trym.prog 32 #[.slice a n cap, .int .i64 C, .int .i64 l, .bool false, .slice (some ⟨ib, 0, none⟩) c c, .slice (some ⟨jb, 0, none⟩) c c, wsOf false wb wo c wcap] w fun e w' => e = .returned (.bool true) ∧ Below w.heap.size w w' := by
  show Calls Trym.prog 32 #[.slice a n cap, .int .i64 C, .int .i64 l, .bool false, .slice (some ⟨ib, 0, none⟩) c c, .slice (some ⟨jb, 0, none⟩) c c, .slice none 0 0] w _
  have qn := fun (W : World) (x : Option Addr) (l c : Nat) => Lib.run_eql_slice_nil (P := Trym.prog) W 41 45 x l c 0 0 Trym.underlying41
  go_enter Trym.func32, Trym.ntmps32
  go_wp2_with fail
  refine (upin_calls a n cap b off M C l w (by omega) (by omega) hC1 (fun i hi => (hsl i hi).1) (fun i hi => (hsl i hi).2) hM).mono ?_
  rintro e w1 ⟨rfl, rfl⟩
  have hc' : Pl.cnt (inB (fun i => !M.down i) (lf M C) l) n = c := hc.symm
  rw [hc']
  have HC := hid_mk hc
  have hcn : c ≤ n := by rw [hc]; exact cl_le _ _ _ _
  clear hc hc'
  go_wp2
  clear qn
  go_loopw [16, 17] (fun p i wr => ∃ k q : Nat, k ≤ n ∧ i = .int .i64 k ∧ p = .int .i64 q ∧ q = cl (fun i => !M.down i) (lf M C) l k ∧ Below w1.heap.size w1 wr) (fun _ i _ => n - (intOf i).toNat)
  case atStart => exact ⟨0, 0, Nat.zero_le _, rfl, rfl, rfl, Below.refl _ _⟩
  case round =>
    obtain ⟨k, q, hk, rfl, rfl, hq, hb⟩ := hrel
    by_cases hkn : k < n
    · have ha := hM.at_ hkn
      subst ha
      have hMx := hM.below hb
      have x0 := hMx.id k hkn
      have x1 := hMx.nm k hkn
      have x2 := hMx.wt k hkn
      have x3 := hMx.slot k hkn
      have x4 := hMx.down k hkn
      have HB := hid_mk hb
      cases hd : M.down k with
      | true =>
        have hcl : cl (fun i => !M.down i) (lf M C) l (k + 1) = cl (fun i => !M.down i) (lf M C) l k := cl_no (fun g => by have := g.1; simp [hd] at this)
        have HQ := hid_mk (show q = cl (fun i => !M.down i) (lf M C) l (k + 1) by rw [hcl]; exact hq)
        rw [hd] at x4
        clear hd hcl hq hb hMx hM r1 r2 heq
        go_wp2
        go_roundw
        case rel => exact ⟨k + 1, q, by omega, by go_num, rfl, HQ.out, HB.out.alloc HB.out.size _⟩
        case measure => simp [intOf]; omega
      | false =>
        rw [hd] at x4
        have hs1 := hsl k hkn
        have hm := lf_eq (M := M) (i := k) (C := C) (by omega)
        by_cases hj : lf M C k = l
        case neg =>
          have hcl : cl (fun i => !M.down i) (lf M C) l (k + 1) = cl (fun i => !M.down i) (lf M C) l k := cl_no (fun g => hj g.2)
          have HQ := hid_mk (show q = cl (fun i => !M.down i) (lf M C) l (k + 1) by rw [hcl]; exact hq)
          have hj' : (((lf M C k : Nat) : Int) == (l : Int)) = false := by simp; omega
          generalize lf M C k = z at hm hj'
          clear hd hcl hq hb hMx hM hj r1 r2 heq
          go_wp2
          go_roundw
          case rel => exact ⟨k + 1, q, by omega, by go_num, rfl, HQ.out, HB.out.alloc HB.out.size _⟩
          case measure => simp [intOf]; omega
        case pos =>
          have hcl : cl (fun i => !M.down i) (lf M C) l (k + 1) = cl (fun i => !M.down i) (lf M C) l k + 1 := cl_yes (by simp [hd]) hj
          have hqc : q < c := by rw [hq, HC.out]; exact Pl.cnt_lt hkn (by simp [inB, hd, hj])
          obtain ⟨e0, e1, e2⟩ := heq k hkn hd hj
          rw [← hq] at e0 e1
          have y0 := (kept_row r1 hb).cell hqc
          have y1 := (kept_row r2 hb).cell hqc
          rw [e0] at y0
          rw [e1] at y1
          have y0l := (kept_row r1 hb).lt
          have y1l := (kept_row r2 hb).lt
          have HQ := hid_mk (show q + 1 = cl (fun i => !M.down i) (lf M C) l (k + 1) by rw [hcl, hq])
          rw [hj] at hm
          clear hd hcl hq hb hMx hM hj e0 e1 e2 heq r1 r2
          go_wp2
          go_quiet (fail)
          go_wp2
          go_quiet (fail)
          go_wp2
          go_roundw
          case rel => exact ⟨k + 1, q + 1, by omega, by go_num, by go_num, HQ.out, below_drewN (HB.out.alloc HB.out.size _) _⟩
          case measure => simp [intOf]; omega
    · clear hM r1 r2 heq hq
      go_wp2
      go_ret
      exact ⟨rfl, hb⟩

end Go.Proofs.Qxb6600905aMods
