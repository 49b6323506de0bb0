/-
  sameRanked: two lists alike, but for one entry.
-/
import Derived.Test.Qxb6600905aModsRankIs
namespace Go.Proofs.Qxb6600905aMods
open Go.RowKit

/-- Where the entry stands in the longer list. -/
def srcQ (r q : Nat) : Nat := if r ≤ q then q + 1 else q

set_option maxHeartbeats 1000000 in
set_option maxRecDepth 100000 in
theorem same_none_true (c1 c2 ia wa wo wc ib wb wo2 wc2 : Nat) (idsA : Nat → ByteArray) (nmsA : Nat → Int) (wsA wsB : Nat → Nat) (idsB : Nat → ByteArray) (nmsB : Nat → Int) (w : World) (hc : c1 ≤ 4096) (hcc : c2 = c1)
    (a1 : w.rowIs ia 9 c1 (fun q => .string (idsA q))) (a2 : w.rowIs (ia + 1) 22 c1 (fun q => .int .u64 (nmsA q))) (b1 : w.rowIs ib 9 c2 (fun q => .string (idsB q))) (b2 : w.rowIs (ib + 1) 22 c2 (fun q => .int .u64 (nmsB q)))
    (hwA : ∀ q, q < c1 → w.cell? ⟨wa, wo + q, none⟩ = some (.float .f64 (wsA q))) (hwa : wa < w.heap.size) (hwB : ∀ q, q < c2 → w.cell? ⟨wb, wo2 + q, none⟩ = some (.float .f64 (wsB q))) (hwb : wb < w.heap.size)
    (heq : ∀ q, q < c2 → idsB q = idsA q ∧ nmsB q = nmsA q ∧ wsB q = wsA q) :
    Calls Trym.prog 36 #[.slice (some ⟨ia, 0, none⟩) c1 c1, .slice (some ⟨ia + 1, 0, none⟩) c1 c1, wsOf true wa wo c1 wc, .slice (some ⟨ib, 0, none⟩) c2 c2, .slice (some ⟨ib + 1, 0, none⟩) c2 c2, wsOf true wb wo2 c2 wc2, .int .i64 (-1)] w fun e w' => e = .returned (.bool true) ∧ Below w.heap.size w w' := by
  show Calls Trym.prog 36 #[.slice (some ⟨ia, 0, none⟩) c1 c1, .slice (some ⟨ia + 1, 0, none⟩) c1 c1, .slice (some ⟨wa, wo, none⟩) c1 wc, .slice (some ⟨ib, 0, none⟩) c2 c2, .slice (some ⟨ib + 1, 0, none⟩) c2 c2, .slice (some ⟨wb, wo2, none⟩) c2 wc2, .int .i64 (-1)] w _
  have qn := fun (W : World) (x : Option Addr) (l c : Nat) => Lib.run_eql_slice_nil (P := Trym.prog) W 41 45 x l c 0 0 Trym.underlying41
  subst hcc
  go_enter Trym.func36, Trym.ntmps36
  go_wp2
  clear qn
  go_loopw [16] (fun i wr => ∃ q : Nat, q ≤ c2 ∧ i = .int .i64 q ∧ Below w.heap.size w wr) (fun i _ => c2 - (intOf i).toNat)
  case atStart => exact ⟨0, Nat.zero_le _, rfl, Below.refl _ _⟩
  case round =>
    obtain ⟨q, hq, rfl, hb⟩ := hrel
    by_cases hlt : q < c2
    · obtain ⟨e0, e1, e2⟩ := heq q hlt
      have HB := hid_mk hb
      have y0 := (kept_row b1 hb).cell hlt
      have y1 := (kept_row b2 hb).cell hlt
      have y2 := (hb.cell (p := ⟨wb, wo2 + q, none⟩) hwb).trans (hwB q hlt)
      have z0 := (kept_row a1 hb).cell (i := q) (by omega)
      have z1 := (kept_row a2 hb).cell (i := q) (by omega)
      have z2 := (hb.cell (p := ⟨wa, wo + (q), none⟩) hwa).trans (hwA (q) (by omega))
      rw [e0] at y0
      rw [e1] at y1
      rw [e2] at y2
      clear a1 a2 b1 b2 heq hb e0 e1 e2 hwA hwB
      go_wp2
      go_quiet (fail)
      go_wp2
      go_quiet ((go_at_call 25; exact (same_calls _ _).mono (fun _ _ h => ⟨h.1, _, h.2⟩)))
      go_wp2
      go_roundw
      case rel => exact ⟨q + 1, by omega, by go_num, below_drewN HB.out _⟩
      case measure => simp [intOf]; omega
    · clear a1 a2 b1 b2 heq hwA hwB
      go_wp2
      go_ret
      exact ⟨rfl, hb⟩

set_option maxHeartbeats 1000000 in
set_option maxRecDepth 100000 in
theorem same_none_false (c1 c2 ia wa wo wc ib wb wo2 wc2 : Nat) (idsA : Nat → ByteArray) (nmsA : Nat → Int) (idsB : Nat → ByteArray) (nmsB : Nat → Int) (w : World) (hc : c1 ≤ 4096) (hcc : c2 = c1)
    (a1 : w.rowIs ia 9 c1 (fun q => .string (idsA q))) (a2 : w.rowIs (ia + 1) 22 c1 (fun q => .int .u64 (nmsA q))) (b1 : w.rowIs ib 9 c2 (fun q => .string (idsB q))) (b2 : w.rowIs (ib + 1) 22 c2 (fun q => .int .u64 (nmsB q)))
    (heq : ∀ q, q < c2 → idsB q = idsA q ∧ nmsB q = nmsA q) :
    Calls Trym.prog 36 #[.slice (some ⟨ia, 0, none⟩) c1 c1, .slice (some ⟨ia + 1, 0, none⟩) c1 c1, wsOf false wa wo c1 wc, .slice (some ⟨ib, 0, none⟩) c2 c2, .slice (some ⟨ib + 1, 0, none⟩) c2 c2, wsOf false wb wo2 c2 wc2, .int .i64 (-1)] w fun e w' => e = .returned (.bool true) ∧ Below w.heap.size w w' := by
  show Calls Trym.prog 36 #[.slice (some ⟨ia, 0, none⟩) c1 c1, .slice (some ⟨ia + 1, 0, none⟩) c1 c1, .slice none 0 0, .slice (some ⟨ib, 0, none⟩) c2 c2, .slice (some ⟨ib + 1, 0, none⟩) c2 c2, .slice none 0 0, .int .i64 (-1)] w _
  have qn := fun (W : World) (x : Option Addr) (l c : Nat) => Lib.run_eql_slice_nil (P := Trym.prog) W 41 45 x l c 0 0 Trym.underlying41
  subst hcc
  go_enter Trym.func36, Trym.ntmps36
  go_wp2
  clear qn
  go_loopw [16] (fun i wr => ∃ q : Nat, q ≤ c2 ∧ i = .int .i64 q ∧ Below w.heap.size w wr) (fun i _ => c2 - (intOf i).toNat)
  case atStart => exact ⟨0, Nat.zero_le _, rfl, Below.refl _ _⟩
  case round =>
    obtain ⟨q, hq, rfl, hb⟩ := hrel
    by_cases hlt : q < c2
    · obtain ⟨e0, e1⟩ := heq q hlt
      have HB := hid_mk hb
      have y0 := (kept_row b1 hb).cell hlt
      have y1 := (kept_row b2 hb).cell hlt
      have z0 := (kept_row a1 hb).cell (i := q) (by omega)
      have z1 := (kept_row a2 hb).cell (i := q) (by omega)
      rw [e0] at y0
      rw [e1] at y1
      clear a1 a2 b1 b2 heq hb e0 e1
      go_wp2
      go_quiet (fail)
      go_wp2
      go_quiet (fail)
      go_wp2
      go_roundw
      case rel => exact ⟨q + 1, by omega, by go_num, below_drewN HB.out _⟩
      case measure => simp [intOf]; omega
    · clear a1 a2 b1 b2 heq
      go_wp2
      go_ret
      exact ⟨rfl, hb⟩

set_option maxHeartbeats 1000000 in
set_option maxRecDepth 100000 in
theorem same_some_true (c1 c2 r ia wa wo wc ib wb wo2 wc2 : Nat) (idsA : Nat → ByteArray) (nmsA : Nat → Int) (wsA wsB : Nat → Nat) (idsB : Nat → ByteArray) (nmsB : Nat → Int) (w : World) (hc : c1 ≤ 4096) (hcc : c1 = c2 + 1) (hr : r < c1)
    (a1 : w.rowIs ia 9 c1 (fun q => .string (idsA q))) (a2 : w.rowIs (ia + 1) 22 c1 (fun q => .int .u64 (nmsA q))) (b1 : w.rowIs ib 9 c2 (fun q => .string (idsB q))) (b2 : w.rowIs (ib + 1) 22 c2 (fun q => .int .u64 (nmsB q)))
    (hwA : ∀ q, q < c1 → w.cell? ⟨wa, wo + q, none⟩ = some (.float .f64 (wsA q))) (hwa : wa < w.heap.size) (hwB : ∀ q, q < c2 → w.cell? ⟨wb, wo2 + q, none⟩ = some (.float .f64 (wsB q))) (hwb : wb < w.heap.size)
    (heq : ∀ q, q < c2 → idsB q = idsA (srcQ r q) ∧ nmsB q = nmsA (srcQ r q) ∧ wsB q = wsA (srcQ r q)) :
    Calls Trym.prog 36 #[.slice (some ⟨ia, 0, none⟩) c1 c1, .slice (some ⟨ia + 1, 0, none⟩) c1 c1, wsOf true wa wo c1 wc, .slice (some ⟨ib, 0, none⟩) c2 c2, .slice (some ⟨ib + 1, 0, none⟩) c2 c2, wsOf true wb wo2 c2 wc2, .int .i64 r] w fun e w' => e = .returned (.bool true) ∧ Below w.heap.size w w' := by
  show Calls Trym.prog 36 #[.slice (some ⟨ia, 0, none⟩) c1 c1, .slice (some ⟨ia + 1, 0, none⟩) c1 c1, .slice (some ⟨wa, wo, none⟩) c1 wc, .slice (some ⟨ib, 0, none⟩) c2 c2, .slice (some ⟨ib + 1, 0, none⟩) c2 c2, .slice (some ⟨wb, wo2, none⟩) c2 wc2, .int .i64 r] w _
  have qn := fun (W : World) (x : Option Addr) (l c : Nat) => Lib.run_eql_slice_nil (P := Trym.prog) W 41 45 x l c 0 0 Trym.underlying41
  subst hcc
  go_enter Trym.func36, Trym.ntmps36
  go_wp2
  clear qn
  go_loopw [16] (fun i wr => ∃ q : Nat, q ≤ c2 ∧ i = .int .i64 q ∧ Below w.heap.size w wr) (fun i _ => c2 - (intOf i).toNat)
  case atStart => exact ⟨0, Nat.zero_le _, rfl, Below.refl _ _⟩
  case round =>
    obtain ⟨q, hq, rfl, hb⟩ := hrel
    by_cases hlt : q < c2
    · obtain ⟨e0, e1, e2⟩ := heq q hlt
      have HB := hid_mk hb
      have y0 := (kept_row b1 hb).cell hlt
      have y1 := (kept_row b2 hb).cell hlt
      have y2 := (hb.cell (p := ⟨wb, wo2 + q, none⟩) hwb).trans (hwB q hlt)
      unfold srcQ at e0 e1 e2
      by_cases hrq : r ≤ q
      · rw [if_pos hrq] at e0 e1 e2
        have z0 := (kept_row a1 hb).cell (i := q + 1) (by omega)
        have z1 := (kept_row a2 hb).cell (i := q + 1) (by omega)
        have z2 := (hb.cell (p := ⟨wa, wo + (q + 1), none⟩) hwa).trans (hwA (q + 1) (by omega))
        rw [e0] at y0
        rw [e1] at y1
        rw [e2] at y2
        clear a1 a2 b1 b2 heq hb e0 e1 e2 hwA hwB
        go_wp2
        go_quiet (fail)
        go_wp2
        go_quiet ((go_at_call 25; exact (same_calls _ _).mono (fun _ _ h => ⟨h.1, _, h.2⟩)))
        go_wp2
        go_roundw
        case rel => exact ⟨q + 1, by omega, by go_num, below_drewN HB.out _⟩
        case measure => simp [intOf]; omega
      · rw [if_neg hrq] at e0 e1 e2
        have z0 := (kept_row a1 hb).cell (i := q) (by omega)
        have z1 := (kept_row a2 hb).cell (i := q) (by omega)
        have z2 := (hb.cell (p := ⟨wa, wo + (q), none⟩) hwa).trans (hwA (q) (by omega))
        rw [e0] at y0
        rw [e1] at y1
        rw [e2] at y2
        clear a1 a2 b1 b2 heq hb e0 e1 e2 hwA hwB
        go_wp2
        go_quiet (fail)
        go_wp2
        go_quiet ((go_at_call 25; exact (same_calls _ _).mono (fun _ _ h => ⟨h.1, _, h.2⟩)))
        go_wp2
        go_roundw
        case rel => exact ⟨q + 1, by omega, by go_num, below_drewN HB.out _⟩
        case measure => simp [intOf]; omega
    · clear a1 a2 b1 b2 heq hwA hwB
      go_wp2
      go_ret
      exact ⟨rfl, hb⟩

set_option maxHeartbeats 1000000 in
set_option maxRecDepth 100000 in
theorem same_some_false (c1 c2 r ia wa wo wc ib wb wo2 wc2 : Nat) (idsA : Nat → ByteArray) (nmsA : Nat → Int) (idsB : Nat → ByteArray) (nmsB : Nat → Int) (w : World) (hc : c1 ≤ 4096) (hcc : c1 = c2 + 1) (hr : r < c1)
    (a1 : w.rowIs ia 9 c1 (fun q => .string (idsA q))) (a2 : w.rowIs (ia + 1) 22 c1 (fun q => .int .u64 (nmsA q))) (b1 : w.rowIs ib 9 c2 (fun q => .string (idsB q))) (b2 : w.rowIs (ib + 1) 22 c2 (fun q => .int .u64 (nmsB q)))
    (heq : ∀ q, q < c2 → idsB q = idsA (srcQ r q) ∧ nmsB q = nmsA (srcQ r q)) :
    Calls Trym.prog 36 #[.slice (some ⟨ia, 0, none⟩) c1 c1, .slice (some ⟨ia + 1, 0, none⟩) c1 c1, wsOf false wa wo c1 wc, .slice (some ⟨ib, 0, none⟩) c2 c2, .slice (some ⟨ib + 1, 0, none⟩) c2 c2, wsOf false wb wo2 c2 wc2, .int .i64 r] w fun e w' => e = .returned (.bool true) ∧ Below w.heap.size w w' := by
  show Calls Trym.prog 36 #[.slice (some ⟨ia, 0, none⟩) c1 c1, .slice (some ⟨ia + 1, 0, none⟩) c1 c1, .slice none 0 0, .slice (some ⟨ib, 0, none⟩) c2 c2, .slice (some ⟨ib + 1, 0, none⟩) c2 c2, .slice none 0 0, .int .i64 r] w _
  have qn := fun (W : World) (x : Option Addr) (l c : Nat) => Lib.run_eql_slice_nil (P := Trym.prog) W 41 45 x l c 0 0 Trym.underlying41
  subst hcc
  go_enter Trym.func36, Trym.ntmps36
  go_wp2
  clear qn
  go_loopw [16] (fun i wr => ∃ q : Nat, q ≤ c2 ∧ i = .int .i64 q ∧ Below w.heap.size w wr) (fun i _ => c2 - (intOf i).toNat)
  case atStart => exact ⟨0, Nat.zero_le _, rfl, Below.refl _ _⟩
  case round =>
    obtain ⟨q, hq, rfl, hb⟩ := hrel
    by_cases hlt : q < c2
    · obtain ⟨e0, e1⟩ := heq q hlt
      have HB := hid_mk hb
      have y0 := (kept_row b1 hb).cell hlt
      have y1 := (kept_row b2 hb).cell hlt
      unfold srcQ at e0 e1
      by_cases hrq : r ≤ q
      · rw [if_pos hrq] at e0 e1
        have z0 := (kept_row a1 hb).cell (i := q + 1) (by omega)
        have z1 := (kept_row a2 hb).cell (i := q + 1) (by omega)
        rw [e0] at y0
        rw [e1] at y1
        clear a1 a2 b1 b2 heq hb e0 e1
        go_wp2
        go_quiet (fail)
        go_wp2
        go_quiet (fail)
        go_wp2
        go_roundw
        case rel => exact ⟨q + 1, by omega, by go_num, below_drewN HB.out _⟩
        case measure => simp [intOf]; omega
      · rw [if_neg hrq] at e0 e1
        have z0 := (kept_row a1 hb).cell (i := q) (by omega)
        have z1 := (kept_row a2 hb).cell (i := q) (by omega)
        rw [e0] at y0
        rw [e1] at y1
        clear a1 a2 b1 b2 heq hb e0 e1
        go_wp2
        go_quiet (fail)
        go_wp2
        go_quiet (fail)
        go_wp2
        go_roundw
        case rel => exact ⟨q + 1, by omega, by go_num, below_drewN HB.out _⟩
        case measure => simp [intOf]; omega
    · clear a1 a2 b1 b2 heq
      go_wp2
      go_ret
      exact ⟨rfl, hb⟩

end Go.Proofs.Qxb6600905aMods
