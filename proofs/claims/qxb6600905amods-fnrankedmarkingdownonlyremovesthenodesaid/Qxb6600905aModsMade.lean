/-
  build and ZZCluster, each as one contract for both kinds of set.
-/
import Derived.Test.Qxb6600905aModsCluster
namespace Go.Proofs.Qxb6600905aMods
open Go.RowKit

/-- The members up of the set that build makes. -/
def upN (M : Mems) (j : Int) (n : Nat) : Nat := Pl.cnt (fun i => !(downM M j).down i) n

theorem upN_eq (M : Mems) (j : Int) (n : Nat) : Pl.cnt (upB M j) n = upN M j n := Pl.cnt_congr (fun i _ => upB_down M j i)

/-- What build leaves. -/
def BuildEnd (w w' : World) (sp n T : Nat) (M : Mems) (j : Int) (F : Nat → Int) (nd : Nat) (D : Nat → Int) (wtd : Bool) : Prop :=
  ∃ wa wl wc mb nb tb vb, w.heap.size ≤ sp ∧ Built w' sp n (upN M j n) T (downM M j) F nd D wa wl wc mb nb tb vb ∧
    (wtd = true → (∃ wb, wa = some ⟨wb, 0, none⟩) ∧ wl = upN M j n) ∧ (wtd = false → wa = none ∧ wl = 0 ∧ wc = 0) ∧ Below w.heap.size w w'

theorem build_calls (a : Option Addr) (n cap b off : Nat) (M : Mems) (fa : Option Addr) (T fcap fb foff : Nat) (F : Nat → Int) (da : Option Addr) (nd dcap db doff : Nat) (D : Nat → Int) (wtd : Bool) (j : Int) (w : World)
    (hn : n ≤ 4096) (hS : ShapeOk F T) (hnd : nd ≤ 1048576) (hM : IsMems w a n b off M) (hF : IsRow w .i64 fa T fb foff F) (hD : IsRow w .u64 da nd db doff D) :
    Calls Trym.prog 19 #[.slice a n cap, .slice fa T fcap, .slice da nd dcap, .bool wtd, .int .i64 j] w fun e w' =>
      ∃ sp, e = .returned (.pointer (some ⟨sp, 0, none⟩)) ∧ BuildEnd w w' sp n T M j F nd D wtd := by
  cases wtd with
  | true =>
    refine (build_true a n cap b off M fa T fcap fb foff F da nd dcap db doff D j w hn hS hnd hM hF hD).mono ?_
    rintro e w' ⟨sp, wa, wl, wc, mb, nb, tb, vb, he, h1, h2, h3, h4⟩
    rw [upN_eq] at h2 h3
    exact ⟨sp, he, wa, wl, wc, mb, nb, tb, vb, h1, h2, fun _ => h3, (fun h => by cases h), h4⟩
  | false =>
    refine (build_false a n cap b off M fa T fcap fb foff F da nd dcap db doff D j w hn hS hnd hM hF hD).mono ?_
    rintro e w' ⟨sp, wa, wl, wc, mb, nb, tb, vb, he, h1, h2, h3, h4⟩
    rw [upN_eq] at h2
    exact ⟨sp, he, wa, wl, wc, mb, nb, tb, vb, h1, h2, (fun h => by cases h), fun _ => h3, h4⟩

/-- A clustered set in memory, 'M' its members. -/
def SetIn (w : World) (sp n T : Nat) (M : Mems) (F : Nat → Int) (nd : Nat) (D : Nat → Int) (wtd : Bool) (mb nb wb bb g cap : Nat) (vb lb : Nat → Nat) (ni : Nat → ByteArray) (nn : Nat → Int) (wt : Nat → Nat) : Prop :=
  Clus w sp n T (Pl.prodTo (fN F) T) (Pl.cnt (fun i => !M.down i) n) M F nd D wtd mb nb wb bb g cap vb lb ni nn wt

/-- What build and ZZCluster leave together. -/
def Made (w w' : World) (sp n T : Nat) (M : Mems) (F : Nat → Int) (nd : Nat) (D : Nat → Int) (wtd : Bool) : Prop :=
  ∃ mb nb wb bb g cap vb lb ni nn wt, SetIn w' sp n T M F nd D wtd mb nb wb bb g cap vb lb ni nn wt ∧ Below w.heap.size w w'

theorem cluster_all (w w1 : World) (sp n T : Nat) (M : Mems) (j : Int) (F : Nat → Int) (nd : Nat) (D : Nat → Int) (wtd : Bool) (hn : n ≤ 4096) (hS : ShapeOk F T) (hsl : ∀ i, i < n → 0 ≤ M.slot i ∧ M.slot i ≤ 9223372036854775807)
    (hB : BuildEnd w w1 sp n T M j F nd D wtd) :
    Calls Trym.prog 40 #[.pointer (some ⟨sp, 0, none⟩)] w1 fun e w' => e = .returned (.tuple #[]) ∧ Made w w' sp n T (downM M j) F nd D wtd := by
  obtain ⟨wa, wl, wc, mb, nb, tb, vb, h1, h2, h3, h4, h5⟩ := hB
  obtain ⟨t1, rfl⟩ : ∃ t1, T = t1 + 1 := ⟨T - 1, by have := hS.pos; omega⟩
  cases wtd with
  | true =>
    obtain ⟨k1, k2⟩ := h3 rfl
    refine (cluster_true sp n (upN M j n) t1 (downM M j) F nd D wa wl wc mb nb tb vb w1 hn hS hsl rfl k1 k2 h2).mono ?_
    rintro e w' ⟨he, nb', wb, bb, g, cap, lb, ni, nn, wt, hc, hb⟩
    exact ⟨he, mb, nb', wb, bb, g, cap, vb, lb, ni, nn, wt, hc, h5.trans (hb.below h5.size h1)⟩
  | false =>
    obtain ⟨k1, k2, k3⟩ := h4 rfl
    refine (cluster_false sp n (upN M j n) t1 (downM M j) F nd D wa wl wc mb nb tb vb w1 hn hS hsl rfl k1 k2 k3 h2).mono ?_
    rintro e w' ⟨he, nb', wb, bb, g, cap, lb, ni, nn, wt, hc, hb⟩
    exact ⟨he, mb, nb', wb, bb, g, cap, vb, lb, ni, nn, wt, hc, h5.trans (hb.below h5.size h1)⟩

set_option maxHeartbeats 400000 in
theorem zzcluster_calls (w w1 : World) (sp n T : Nat) (M : Mems) (j : Int) (F : Nat → Int) (nd : Nat) (D : Nat → Int) (wtd : Bool) (hn : n ≤ 4096) (hS : ShapeOk F T) (hsl : ∀ i, i < n → 0 ≤ M.slot i ∧ M.slot i ≤ 9223372036854775807)
    (hB : BuildEnd w w1 sp n T M j F nd D wtd) :
    Calls Trym.prog 20 #[.pointer (some ⟨sp, 0, none⟩)] w1 fun e w' => e = .returned (.tuple #[]) ∧ Made w w' sp n T (downM M j) F nd D wtd := by
  go_enter Trym.func20, Trym.ntmps20
  go_wp2_with fail
  refine (cluster_all w w1 sp n T M j F nd D wtd hn hS hsl hB).mono ?_
  rintro e w2 ⟨rfl, h⟩
  go_wp2
  go_end0
  exact ⟨rfl, h⟩

set_option maxHeartbeats 400000 in
theorem zzweights_calls {w : World} {sp n T : Nat} {M : Mems} {F : Nat → Int} {nd : Nat} {D : Nat → Int} {wtd : Bool} {mb nb wb bb g cap : Nat} {vb lb : Nat → Nat} {ni : Nat → ByteArray} {nn : Nat → Int} {wt : Nat → Nat}
    (h : SetIn w sp n T M F nd D wtd mb nb wb bb g cap vb lb ni nn wt) :
    Calls Trym.prog 22 #[.pointer (some ⟨sp, 0, none⟩)] w fun e w' => e = .returned (if wtd = true then .slice (some ⟨wb, 0, none⟩) (Pl.cnt (fun i => !M.down i) n) (Pl.cnt (fun i => !M.down i) n) else .slice none 0 0) ∧ w' = w := by
  have c := h.set.cell (i := 2) (by omega)
  cases wtd with
  | true =>
    have c' : w.cell? ⟨sp, 2, none⟩ = some (.slice (some ⟨wb, 0, none⟩) (Pl.cnt (fun i => !M.down i) n) (Pl.cnt (fun i => !M.down i) n)) := c
    clear c h
    go_enter Trym.func22, Trym.ntmps22
    go_wp2
    go_ret
    exact ⟨rfl, rfl⟩
  | false =>
    have c' : w.cell? ⟨sp, 2, none⟩ = some (.slice none 0 0) := c
    clear c h
    go_enter Trym.func22, Trym.ntmps22
    go_wp2
    go_ret
    exact ⟨rfl, rfl⟩

set_option maxHeartbeats 400000 in
theorem zzbounds_calls {w : World} {sp n T : Nat} {M : Mems} {F : Nat → Int} {nd : Nat} {D : Nat → Int} {wtd : Bool} {mb nb wb bb g cap : Nat} {vb lb : Nat → Nat} {ni : Nat → ByteArray} {nn : Nat → Int} {wt : Nat → Nat}
    (h : SetIn w sp n T M F nd D wtd mb nb wb bb g cap vb lb ni nn wt) :
    Calls Trym.prog 23 #[.pointer (some ⟨sp, 0, none⟩)] w fun e w' => e = .returned (.slice (some ⟨bb, 0, none⟩) (Pl.prodTo (fN F) T + 1) (Pl.prodTo (fN F) T + 1)) ∧ w' = w := by
  have c : w.cell? ⟨sp, 6, none⟩ = some (.slice (some ⟨bb, 0, none⟩) (Pl.prodTo (fN F) T + 1) (Pl.prodTo (fN F) T + 1)) := h.set.cell (i := 6) (by omega)
  clear h
  go_enter Trym.func23, Trym.ntmps23
  go_wp2
  go_ret
  exact ⟨rfl, rfl⟩

set_option maxHeartbeats 400000 in
theorem zzlive_calls {w : World} {sp n T : Nat} {M : Mems} {F : Nat → Int} {nd : Nat} {D : Nat → Int} {wtd : Bool} {mb nb wb bb g cap : Nat} {vb lb : Nat → Nat} {ni : Nat → ByteArray} {nn : Nat → Int} {wt : Nat → Nat}
    (h : SetIn w sp n T M F nd D wtd mb nb wb bb g cap vb lb ni nn wt) (t : Nat) (ht : t < T) :
    Calls Trym.prog 41 #[.pointer (some ⟨sp, 0, none⟩), .int .i64 t] w fun e w' => e = .returned (.slice (some ⟨lb t, 0, none⟩) (szF F t) (szF F t)) ∧ w' = w := by
  have c : w.cell? ⟨sp, 5, none⟩ = some (.slice (some ⟨g, 0, none⟩) T cap) := h.set.cell (i := 5) (by omega)
  have d : w.cell? ⟨g, t * 3 + 2, none⟩ = some (.slice (some ⟨lb t, 0, none⟩) (szF F t) (szF F t)) := h.tie.liv ht
  clear h
  go_enter Trym.func41, Trym.ntmps41
  go_wp2
  go_ret
  exact ⟨rfl, rfl⟩

theorem fill_any {α : Type} (c : α → Value) (g : Nat → α) (d : α) (k : Nat) {n : Nat} : ∀ i, i < n → (if i = k then c (g k) else c (if i < k then g i else d)) = c (if i < k + 1 then g i else d) := fill_step c g d k

set_option maxHeartbeats 1000000 in
theorem zznodes_calls {w : World} {sp n T : Nat} {M : Mems} {F : Nat → Int} {nd : Nat} {D : Nat → Int} {wtd : Bool} {mb nb wb bb g cap : Nat} {vb lb : Nat → Nat} {ni : Nat → ByteArray} {nn : Nat → Int} {wt : Nat → Nat}
    (hn : n ≤ 4096) (h : SetIn w sp n T M F nd D wtd mb nb wb bb g cap vb lb ni nn wt) :
    Calls Trym.prog 21 #[.pointer (some ⟨sp, 0, none⟩)] w fun e w' =>
      e = .returned (.tuple #[.slice (some ⟨w.heap.size, 0, none⟩) (Pl.cnt (fun i => !M.down i) n) (Pl.cnt (fun i => !M.down i) n), .slice (some ⟨w.heap.size + 1, 0, none⟩) (Pl.cnt (fun i => !M.down i) n) (Pl.cnt (fun i => !M.down i) n)]) ∧
      w'.rowIs w.heap.size 9 (Pl.cnt (fun i => !M.down i) n) (fun p => .string (ni p)) ∧ w'.rowIs (w.heap.size + 1) 22 (Pl.cnt (fun i => !M.down i) n) (fun p => .int .u64 (nn p)) ∧ Below w.heap.size w w' := by
  have hset : w.cell? ⟨sp, 1, none⟩ = some (.slice (some ⟨nb, 0, none⟩) (Pl.cnt (fun i => !M.down i) n) (Pl.cnt (fun i => !M.down i) n)) := h.set.cell (i := 1) (by omega)
  have hul := Pl.cnt_le (fun i => !M.down i) n
  have hnod := h.nod
  have hspl := h.set.lt
  clear h
  generalize Pl.cnt (fun i => !M.down i) n = up at hset hul hnod
  obtain ⟨Z38, hZ38⟩ := made38
  obtain ⟨Z23, hZ23⟩ := made23
  have hm38 := fun (W : World) => hZ38.run up W (by omega)
  have hm23 := fun (W : World) => hZ23.run up W (by omega)
  have e1 := (hZ38.row1 w up).congr (g := fun i => .string (if i < 0 then ni i else ByteArray.empty)) (fun i _ => by simp)
  have e2 := (hZ23.row1 (w.alloc (.cells (Z38 up) 9)) up).congr (g := fun i => .int .u64 (if i < 0 then nn i else 0)) (fun i _ => by simp)
  simp only [World.size_alloc] at e2
  go_enter Trym.func21, Trym.ntmps21
  go_wp2
  clear hm38 hm23
  go_loopw [24] (fun i wr => ∃ k : Nat, k ≤ up ∧ i = .int .i64 k ∧ wr.rowIs w.heap.size 9 up (fun i => .string (if i < k then ni i else ByteArray.empty)) ∧ wr.rowIs (w.heap.size + 1) 22 up (fun i => .int .u64 (if i < k then nn i else 0)) ∧ Below w.heap.size w wr) (fun i _ => up - (intOf i).toNat)
  case atStart => exact ⟨0, Nat.zero_le _, rfl, e1.alloc _, e2, ((Below.refl _ _).alloc (Nat.le_refl _) _).alloc (by simp) _⟩
  case round =>
    obtain ⟨k, hk, rfl, r1, r2, hb⟩ := hrel
    clear e1 e2
    by_cases hlt : k < up
    · have c1 := (hb.cell (p := ⟨sp, 1, none⟩) hspl).trans hset
      obtain ⟨n0, n1⟩ := node_cell (kept_row hnod hb) hlt
      have d1 := r1.cell hlt
      have d2 := r2.cell hlt
      have f1 := r1.frozen k
      have f2 := r2.frozen k
      have hnl := hnod.lt
      have HR1 := hid_mk (((r1.set k (.string (ni k))).congr (fill_step Value.string ni ByteArray.empty k)).setOther (a := ⟨w.heap.size + 1, k, none⟩) (by show w.heap.size ≠ w.heap.size + 1; omega) (.int .u64 (nn k)))
      have HR2 := hid_mk (((r2.setOther (a := ⟨w.heap.size, k, none⟩) (by show w.heap.size + 1 ≠ w.heap.size; omega) (.string (ni k))).set k (.int .u64 (nn k))).congr (fill_step (Value.int .u64) nn 0 k))
      have HB := hid_mk ((hb.setCell (p := ⟨w.heap.size, k, none⟩) (Nat.le_refl _) (.string (ni k))).setCell (p := ⟨w.heap.size + 1, k, none⟩) (by show _ ≤ w.heap.size + 1; omega) (.int .u64 (nn k)))
      simp only [Nat.lt_irrefl, if_false] at d1 d2
      clear r1 r2 hb hnod hset hZ38 hZ23
      go_wp2
      go_roundw
      case rel => exact ⟨k + 1, by omega, by go_num, HR1.out, HR2.out, HB.out⟩
      case measure => simp [intOf]; omega
    · obtain rfl : up = k := by omega
      have q1 := r1.congr (g := fun i => .string (ni i)) (fun i h => by rw [if_pos h])
      have q2 := r2.congr (g := fun i => .int .u64 (nn i)) (fun i h => by rw [if_pos h])
      clear r1 r2 hnod hset
      go_wp2
      go_ret2
      exact ⟨rfl, q1, q2, hb⟩
end Go.Proofs.Qxb6600905aMods
