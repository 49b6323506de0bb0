/-
  build: the set that the laws make.
-/
import Derived.Test.Qxb6600905aModsNewSet
import Derived.Test.Qxb6600905aModsGates
namespace Go.Proofs.Qxb6600905aMods
open Go.RowKit
attribute [local go_sem] run_store_float

/-- The members with one more marked down. -/
def downM (M : Mems) (j : Int) : Mems := { M with down := fun i => M.down i || (i : Int) == j }

theorem upB_down (M : Mems) (j : Int) (i : Nat) : upB M j i = !(downM M j).down i := by
  simp only [upB, downM, bne, Bool.not_or]

/-- The five rows that build lays first, the first 'k' cells filled. -/
structure Five (w wr : World) (B n : Nat) (M : Mems) (k : Nat) : Prop where
  ids : wr.rowIs B 9 n (fun i => .string (if i < k then M.id i else ByteArray.empty))
  nms : wr.rowIs (B + 1) 22 n (fun i => .int .u64 (if i < k then M.nm i else 0))
  wts : wr.rowIs (B + 2) 45 n (fun i => .float .f64 (if i < k then M.wt i else 0))
  sls : wr.rowIs (B + 3) 3 n (fun i => .int .i64 (if i < k then M.slot i else 0))
  dns : wr.rowIs (B + 4) 4 n (fun i => .bool (if i < k then M.down i else false))
  b : Below B w wr

theorem fill_step {α : Type} (c : α → Value) (g : Nat → α) (d : α) (k : Nat) {n : Nat} : ∀ i, i < n → (if i = k then c (g k) else c (if i < k then g i else d)) = c (if i < k + 1 then g i else d) := by
  intro i _
  by_cases h : i = k
  · subst h; simp
  · rw [if_neg h]
    by_cases h2 : i < k
    · rw [if_pos h2, if_pos (by omega)]
    · rw [if_neg h2, if_neg (by omega)]

theorem Five.step {w wr : World} {B n : Nat} {M : Mems} {k : Nat} (h : Five w wr B n M k) :
    Five w (((((wr.setCell ⟨B, k, none⟩ (.string (M.id k))).setCell ⟨B + 1, k, none⟩ (.int .u64 (M.nm k))).setCell ⟨B + 2, k, none⟩ (.float .f64 (M.wt k))).setCell ⟨B + 3, k, none⟩ (.int .i64 (M.slot k))).setCell ⟨B + 4, k, none⟩ (.bool (M.down k))) B n M (k + 1) :=
  ⟨(((((h.ids.set k _).congr (fill_step Value.string M.id _ k)).setOther (by show B ≠ B + 1; omega) _).setOther (by show B ≠ B + 2; omega) _).setOther (by show B ≠ B + 3; omega) _).setOther (by show B ≠ B + 4; omega) _,
   (((((h.nms.setOther (by show B + 1 ≠ B; omega) _).set k _).congr (fill_step (Value.int .u64) M.nm _ k)).setOther (by show B + 1 ≠ B + 2; omega) _).setOther (by show B + 1 ≠ B + 3; omega) _).setOther (by show B + 1 ≠ B + 4; omega) _,
   (((((h.wts.setOther (by show B + 2 ≠ B; omega) _).setOther (by show B + 2 ≠ B + 1; omega) _).set k _).congr (fill_step (Value.float .f64) M.wt _ k)).setOther (by show B + 2 ≠ B + 3; omega) _).setOther (by show B + 2 ≠ B + 4; omega) _,
   (((((h.sls.setOther (by show B + 3 ≠ B; omega) _).setOther (by show B + 3 ≠ B + 1; omega) _).setOther (by show B + 3 ≠ B + 2; omega) _).set k _).congr (fill_step (Value.int .i64) M.slot _ k)).setOther (by show B + 3 ≠ B + 4; omega) _,
   (((((h.dns.setOther (by show B + 4 ≠ B; omega) _).setOther (by show B + 4 ≠ B + 1; omega) _).setOther (by show B + 4 ≠ B + 2; omega) _).setOther (by show B + 4 ≠ B + 3; omega) _).set k _).congr (fill_step Value.bool M.down _ k),
   ((((h.b.setCell (Nat.le_refl _) _).setCell (by show B ≤ B + 1; omega) _).setCell (by show B ≤ B + 2; omega) _).setCell (by show B ≤ B + 3; omega) _).setCell (by show B ≤ B + 4; omega) _⟩

theorem five_start (w : World) (n : Nat) (M : Mems) {Z38 Z23 Z41 Z29 Z60 : Nat → Array Value} (h1 : Makes 38 9 1 (fun _ => .string ByteArray.empty) Z38) (h2 : Makes 23 22 1 (fun _ => .int .u64 0) Z23)
    (h3 : Makes 41 45 1 (fun _ => .float .f64 0) Z41) (h4 : Makes 29 3 1 (fun _ => .int .i64 0) Z29) (h5 : Makes 60 4 1 (fun _ => .bool false) Z60) :
    Five w (((((w.alloc (.cells (Z38 n) 9)).alloc (.cells (Z23 n) 22)).alloc (.cells (Z41 n) 45)).alloc (.cells (Z29 n) 3)).alloc (.cells (Z60 n) 4)) w.heap.size n M 0 := by
  have e1 := h1.row1 w n
  have e2 := h2.row1 (w.alloc (.cells (Z38 n) 9)) n
  have e3 := h3.row1 ((w.alloc (.cells (Z38 n) 9)).alloc (.cells (Z23 n) 22)) n
  have e4 := h4.row1 (((w.alloc (.cells (Z38 n) 9)).alloc (.cells (Z23 n) 22)).alloc (.cells (Z41 n) 45)) n
  have e5 := h5.row1 ((((w.alloc (.cells (Z38 n) 9)).alloc (.cells (Z23 n) 22)).alloc (.cells (Z41 n) 45)).alloc (.cells (Z29 n) 3)) n
  simp only [World.size_alloc] at e1 e2 e3 e4 e5
  refine ⟨((((e1.alloc _).alloc _).alloc _).alloc _).congr (fun i _ => by simp), (((e2.alloc _).alloc _).alloc _).congr (fun i _ => by simp), ((e3.alloc _).alloc _).congr (fun i _ => by simp), (e4.alloc _).congr (fun i _ => by simp), e5.congr (fun i _ => by simp), ?_⟩
  exact (((((Below.refl _ _).alloc (Nat.le_refl _) _).alloc (by simp) _).alloc (by simp; omega) _).alloc (by simp; omega) _).alloc (by simp; omega) _

/-- The set as build leaves it. -/
structure Built (w : World) (sp n up T : Nat) (M : Mems) (F : Nat → Int) (nd : Nat) (D : Nat → Int) (wa : Option Addr) (wl wc mb nb tb : Nat) (vb : Nat → Nat) : Prop where
  set : w.rowIs sp 68 7 (setC (.slice (some ⟨mb, 0, none⟩) n n) (.slice (some ⟨nb, 0, none⟩) up up) (.slice wa wl wc) true (.slice (some ⟨tb, 0, none⟩) T T) (.slice none 0 0))
  mem : w.rowIs mb 77 (n * 5) (strF 5 (memG M) memZ n)
  tie : w.rowIs tb 79 (T * 3) (strF 3 (tierG F vb (fun t => Pl.prodTo (fN F) (t + 1))) tierZ T)
  vms : ∀ t, t < T → w.rowIs (vb t) 22 (Pl.prodTo (fN F) (t + 1)) (fun v => .int .u64 (dig nd D (Pl.offTo (fN F) t + v)))
  mbs : mb ≠ sp
  tbs : tb ≠ sp
  vbs : ∀ t, t < T → vb t ≠ sp

theorem dig_callsI (a : Option Addr) (nd cap b off : Nat) (D : Nat → Int) (x : Int) (k : Nat) (w : World) (hx : x = (k : Int)) (hnd : nd ≤ 1048576) (hk : k ≤ 1048576) (h : IsRow w .u64 a nd b off D) :
    Calls Trym.prog 38 #[.slice a nd cap, .int .i64 x] w fun e w' => e = .returned (.int .u64 (dig nd D k)) ∧ w' = w := by
  subst hx; exact dig_calls a nd cap b off D k w hnd hk h

/-- The rows that hold the nodes. -/
structure NodeRows (wr : World) (B up : Nat) (wtd : Bool) (nid : Nat → ByteArray) (nnm : Nat → Int) (nwt : Nat → Nat) : Prop where
  ids : wr.rowIs B 9 up (fun i => .string (nid i))
  nms : wr.rowIs (B + 1) 22 up (fun i => .int .u64 (nnm i))
  wts : wtd = true → wr.rowIs (B + 2) 45 up (fun i => .float .f64 (nwt i))

theorem upd_string (c : Nat) (x : ByteArray) (g : Nat → ByteArray) {n : Nat} : ∀ i, i < n → (if i = c then Value.string x else Value.string (g i)) = Value.string (if i = c then x else g i) := by intro i _; split <;> rfl
theorem upd_int (q : IntKind) (c : Nat) (x : Int) (g : Nat → Int) {n : Nat} : ∀ i, i < n → (if i = c then Value.int q x else Value.int q (g i)) = Value.int q (if i = c then x else g i) := by intro i _; split <;> rfl
theorem upd_float (c : Nat) (x : Nat) (g : Nat → Nat) {n : Nat} : ∀ i, i < n → (if i = c then Value.float .f64 x else Value.float .f64 (g i)) = Value.float .f64 (if i = c then x else g i) := by intro i _; split <;> rfl

theorem NodeRows.stepT {wr : World} {B up c : Nat} {nid : Nat → ByteArray} {nnm : Nat → Int} {nwt : Nat → Nat} (h : NodeRows wr B up true nid nnm nwt) (x : ByteArray) (y : Int) (z : Nat) :
    ∃ nid nnm nwt, NodeRows (((wr.setCell ⟨B, c, none⟩ (.string x)).setCell ⟨B + 1, c, none⟩ (.int .u64 y)).setCell ⟨B + 2, c, none⟩ (.float .f64 z)) B up true nid nnm nwt :=
  ⟨_, _, _, (((h.ids.set c _).congr (upd_string c x nid)).setOther (by show B ≠ B + 1; omega) _).setOther (by show B ≠ B + 2; omega) _,
    (((h.nms.setOther (by show B + 1 ≠ B; omega) _).set c _).congr (upd_int .u64 c y nnm)).setOther (by show B + 1 ≠ B + 2; omega) _,
    fun _ => ((((h.wts rfl).setOther (by show B + 2 ≠ B; omega) _).setOther (by show B + 2 ≠ B + 1; omega) _).set c _).congr (upd_float c z nwt)⟩

theorem NodeRows.stepF {wr : World} {B up c : Nat} {nid : Nat → ByteArray} {nnm : Nat → Int} {nwt : Nat → Nat} (h : NodeRows wr B up false nid nnm nwt) (x : ByteArray) (y : Int) :
    ∃ nid nnm nwt, NodeRows ((wr.setCell ⟨B, c, none⟩ (.string x)).setCell ⟨B + 1, c, none⟩ (.int .u64 y)) B up false nid nnm nwt :=
  ⟨_, _, nwt, ((h.ids.set c _).congr (upd_string c x nid)).setOther (by show B ≠ B + 1; omega) _,
    ((h.nms.setOther (by show B + 1 ≠ B; omega) _).set c _).congr (upd_int .u64 c y nnm),
    fun h => by cases h⟩

theorem nodes_startT (w : World) (up : Nat) {Z38 Z23 Z41 : Nat → Array Value} (h1 : Makes 38 9 1 (fun _ => .string ByteArray.empty) Z38) (h2 : Makes 23 22 1 (fun _ => .int .u64 0) Z23)
    (h3 : Makes 41 45 1 (fun _ => .float .f64 0) Z41) :
    NodeRows (((w.alloc (.cells (Z38 up) 9)).alloc (.cells (Z23 up) 22)).alloc (.cells (Z41 up) 45)) w.heap.size up true (fun _ => ByteArray.empty) (fun _ => 0) (fun _ => 0) ∧
    Below w.heap.size w (((w.alloc (.cells (Z38 up) 9)).alloc (.cells (Z23 up) 22)).alloc (.cells (Z41 up) 45)) := by
  have e1 := h1.row1 w up
  have e2 := h2.row1 (w.alloc (.cells (Z38 up) 9)) up
  have e3 := h3.row1 ((w.alloc (.cells (Z38 up) 9)).alloc (.cells (Z23 up) 22)) up
  simp only [World.size_alloc] at e1 e2 e3
  exact ⟨⟨(e1.alloc _).alloc _, e2.alloc _, fun _ => e3⟩, (((Below.refl _ _).alloc (Nat.le_refl _) _).alloc (by simp) _).alloc (by simp; omega) _⟩

theorem nodes_startF (w : World) (up : Nat) {Z38 Z23 : Nat → Array Value} (h1 : Makes 38 9 1 (fun _ => .string ByteArray.empty) Z38) (h2 : Makes 23 22 1 (fun _ => .int .u64 0) Z23) :
    NodeRows ((w.alloc (.cells (Z38 up) 9)).alloc (.cells (Z23 up) 22)) w.heap.size up false (fun _ => ByteArray.empty) (fun _ => 0) (fun _ => 0) ∧
    Below w.heap.size w ((w.alloc (.cells (Z38 up) 9)).alloc (.cells (Z23 up) 22)) := by
  have e1 := h1.row1 w up
  have e2 := h2.row1 (w.alloc (.cells (Z38 up) 9)) up
  simp only [World.size_alloc] at e1 e2
  exact ⟨⟨e1.alloc _, e2, fun h => by cases h⟩, ((Below.refl _ _).alloc (Nat.le_refl _) _).alloc (by simp) _⟩

/-- The slices of virtual digests, the first 't' laid. -/
def vmsF (f vb : Nat → Nat) (t i : Nat) : Value := if i < t then .slice (some ⟨vb i, 0, none⟩) (Pl.prodTo f (i + 1)) (Pl.prodTo f (i + 1)) else .slice none 0 0

theorem vms_step {f vb : Nat → Nat} {t s b : Nat} (hs : s = Pl.prodTo f (t + 1)) (i : Nat) :
    (if i = t then Value.slice (some ⟨b, 0, none⟩) s s else vmsF f vb t i) = vmsF f (fun i => if i = t then b else vb i) (t + 1) i := by
  unfold vmsF
  by_cases e : i = t
  · subst e; simp [hs]
  · rw [if_neg e]
    by_cases h : i < t
    · rw [if_pos h, if_pos (by omega)]; dsimp only; rw [if_neg e]
    · rw [if_neg h, if_neg (by omega)]

set_option maxRecDepth 100000 in
set_option maxHeartbeats 4000000 in
theorem build_true (a : Option Addr) (n cap b off : Nat) (M : Mems) (fa : Option Addr) (T fcap fb foff : Nat) (F : Nat → Int) (da : Option Addr) (nd dcap db doff : Nat) (D : Nat → Int) (j : Int) (w : World)
    (hn : n ≤ 4096) (hS : ShapeOk F T) (hnd : nd ≤ 1048576) (hM : IsMems w a n b off M) (hF : IsRow w .i64 fa T fb foff F) (hD : IsRow w .u64 da nd db doff D) :
    Calls Trym.prog 19 #[.slice a n cap, .slice fa T fcap, .slice da nd dcap, .bool true, .int .i64 j] w fun e w' =>
      ∃ sp wa wl wc mb nb tb vb, e = .returned (.pointer (some ⟨sp, 0, none⟩)) ∧ w.heap.size ≤ sp ∧ Built w' sp n (Pl.cnt (upB M j) n) T (downM M j) F nd D wa wl wc mb nb tb vb ∧
        ((∃ wb, wa = some ⟨wb, 0, none⟩) ∧ wl = Pl.cnt (upB M j) n) ∧ Below w.heap.size w w' := by
  obtain ⟨Z38, hZ38⟩ := made38
  obtain ⟨Z23, hZ23⟩ := made23
  obtain ⟨Z41, hZ41⟩ := made41
  obtain ⟨Z29, hZ29⟩ := made29
  obtain ⟨Z60, hZ60⟩ := made60
  have hm38 := fun (W : World) => hZ38.run n W (by omega)
  have hm23 := fun (W : World) => hZ23.run n W (by omega)
  have hm41 := fun (W : World) => hZ41.run n W (by omega)
  have hm29 := fun (W : World) => hZ29.run n W (by omega)
  have hm60 := fun (W : World) => hZ60.run n W (by omega)
  go_enter Trym.func19, Trym.ntmps19
  go_wp2
  have h5 := five_start w n (downM M j) hZ38 hZ23 hZ41 hZ29 hZ60
  clear hm38 hm23 hm41 hm29 hm60
  go_loopw [17] (fun i wr => ∃ k : Nat, k ≤ n ∧ i = .int .i64 k ∧ Five w wr w.heap.size n (downM M j) k) (fun i _ => n - (intOf i).toNat)
  case atStart => exact ⟨0, Nat.zero_le _, rfl, h5⟩
  case round =>
    obtain ⟨k, hk, rfl, h5'⟩ := hrel
    clear h5
    by_cases hlt : k < n
    · have hM' := hM.below h5'.b
      have ha := hM'.at_ hlt
      subst ha
      have m0 := hM'.id k hlt
      have m1 := hM'.nm k hlt
      have m2 := hM'.wt k hlt
      have m3 := hM'.slot k hlt
      have m4 := hM'.down k hlt
      have c0 := h5'.ids.cell hlt
      have c1 := h5'.nms.cell hlt
      have c2 := h5'.wts.cell hlt
      have c3 := h5'.sls.cell hlt
      have c4 := h5'.dns.cell hlt
      have f0 := h5'.ids.frozen k
      have f1 := h5'.nms.frozen k
      have f2 := h5'.wts.frozen k
      have f3 := h5'.sls.frozen k
      have f4 := h5'.dns.frozen k
      have hb0 := hM.lt (by omega)
      simp only [Nat.lt_irrefl, if_false] at c0 c1 c2 c3 c4
      have HS := hid_mk h5'.step
      clear h5' hM' hM hF hD hZ38 hZ23 hZ41 hZ29 hZ60
      cases hd : M.down k with
      | true =>
        have hdd : (downM M j).down k = true := by simp [downM, hd]
        rw [hdd] at HS
        rw [hd] at m4
        clear hd hdd
        go_wp2
        go_roundw
        case rel => exact ⟨k + 1, by omega, by go_num, HS.out⟩
        case measure => simp [intOf]; omega
      | false =>
        rw [hd] at m4
        by_cases hj : ((k : Int) == j) = true
        · have hdd : (downM M j).down k = true := by simp only [downM, hd, hj]; rfl
          rw [hdd] at HS
          clear hd hdd
          go_wp2
          go_roundw
          case rel => exact ⟨k + 1, by omega, by go_num, HS.out⟩
          case measure => simp [intOf]; omega
        · have hj' : ((k : Int) == j) = false := by simpa using hj
          have hdd : (downM M j).down k = false := by simp only [downM, hd, hj']; rfl
          rw [hdd] at HS
          clear hd hdd hj
          go_wp2
          go_roundw
          case rel => exact ⟨k + 1, by omega, by go_num, HS.out⟩
          case measure => simp [intOf]; omega
    · obtain rfl : n = k := by omega
      obtain ⟨w1, rfl⟩ : ∃ w1 : World, w1 = wr := ⟨_, rfl⟩
      have r1 := h5'.ids.congr (g := fun i => .string ((downM M j).id i)) (fun i h => by rw [if_pos h])
      have r2 := h5'.nms.congr (g := fun i => .int .u64 ((downM M j).nm i)) (fun i h => by rw [if_pos h])
      have r3 := h5'.wts.congr (g := fun i => .float .f64 ((downM M j).wt i)) (fun i h => by rw [if_pos h])
      have r4 := h5'.sls.congr (g := fun i => .int .i64 ((downM M j).slot i)) (fun i h => by rw [if_pos h])
      have r5 := h5'.dns.congr (g := fun i => .bool ((downM M j).down i)) (fun i h => by rw [if_pos h])
      have hb1 := h5'.b
      clear h5' hk hlt
      have hM1 := hM.below hb1
      go_wp2_with fail
      refine (count_calls a n cap b off M j _ (by omega) hM1).mono ?_
      rintro e w1' ⟨rfl, rfl⟩
      have hul := Pl.cnt_le (upB M j) n
      have HU : Hid (∀ i, i < n → (downM M j).down i = false → Pl.cnt (upB M j) i < Pl.cnt (upB M j) n) := fun i hi hd => Pl.cnt_lt hi (by rw [upB_down, hd]; rfl)
      generalize hup : Pl.cnt (upB M j) n = up at hul HU
      have HUP := hid_mk hup
      clear hup
      have hm38 := fun (W : World) => hZ38.run up W (by omega)
      have hm23 := fun (W : World) => hZ23.run up W (by omega)
      have hm41 := fun (W : World) => hZ41.run up W (by omega)
      obtain ⟨hN, hNb⟩ := nodes_startT w1' up hZ38 hZ23 hZ41
      go_wp2
      clear hm38 hm23 hm41
      go_loopw [22, 23] (fun c i wr => ∃ (k : Nat) (nid : Nat → ByteArray) (nnm : Nat → Int) (nwt : Nat → Nat), k ≤ n ∧ i = .int .i64 k ∧ c = .int .i64 (Pl.cnt (upB M j) k) ∧ NodeRows wr w1'.heap.size up true nid nnm nwt ∧ Below w1'.heap.size w1' wr) (fun _ i _ => n - (intOf i).toNat)
      case atStart => exact ⟨0, _, _, _, Nat.zero_le _, rfl, rfl, hN, hNb⟩
      case round =>
        obtain ⟨k, nid, nnm, nwt, hk, rfl, rfl, hN2, hb2⟩ := hrel
        clear hN hNb
        by_cases hlt : k < n
        · have c0 := (kept_row r1 hb2).cell hlt
          have c1 := (kept_row r2 hb2).cell hlt
          have c2 := (kept_row r3 hb2).cell hlt
          have c4 := (kept_row r5 hb2).cell hlt
          have hB := r5.lt
          have hcl := Pl.cnt_le (upB M j) k
          cases hd : (downM M j).down k with
          | true =>
            have HC := hid_mk (Pl.cnt_no (p := upB M j) (k := k) (by rw [upB_down, hd]; rfl))
            rw [hd] at c4
            clear hd r1 r2 r3 r4 r5 hM1 hM hF hD hZ38 hZ23 hZ41 hZ29 hZ60
            go_wp2
            go_roundw
            case rel => exact ⟨k + 1, nid, nnm, nwt, by omega, by go_num, by rw [HC.out], hN2, hb2⟩
            case measure => simp [intOf]; omega
          | false =>
            have hcu := HU.out k hlt hd
            have HC := hid_mk (Pl.cnt_yes (p := upB M j) (k := k) (by rw [upB_down, hd]; rfl))
            rw [hd] at c4
            generalize Pl.cnt (upB M j) k = c at hcl hcu HC
            have d0 := hN2.ids.cell hcu
            have d1 := hN2.nms.cell hcu
            have d2 := (hN2.wts rfl).cell hcu
            have f2 := (hN2.wts rfl).frozen c
            have f0 := hN2.ids.frozen c
            have f1 := hN2.nms.frozen c
            have HS := hid_mk (hN2.stepT (c := c) ((downM M j).id k) ((downM M j).nm k) ((downM M j).wt k))
            have HB := hid_mk (((hb2.setCell (p := ⟨w1'.heap.size, c, none⟩) (Nat.le_refl _) (.string ((downM M j).id k))).setCell (p := ⟨w1'.heap.size + 1, c, none⟩) (by show _ ≤ w1'.heap.size + 1; omega) (.int .u64 ((downM M j).nm k))).setCell (p := ⟨w1'.heap.size + 2, c, none⟩) (by show _ ≤ w1'.heap.size + 2; omega) (.float .f64 ((downM M j).wt k)))
            clear hd r1 r2 r3 r4 r5 hM1 hM hF hD hZ38 hZ23 hZ41 hZ29 hZ60 hN2 hb2
            go_wp2
            go_roundw
            case rel =>
              obtain ⟨q1, q2, q3, hq⟩ := HS.out
              exact ⟨k + 1, q1, q2, q3, by omega, by go_num, by rw [HC.out]; go_num, hq, HB.out⟩
            case measure => simp [intOf]; omega
        · obtain rfl : n = k := by omega
          clear hlt hk
          obtain ⟨w2, rfl⟩ : ∃ w2 : World, w2 = wr := ⟨_, rfl⟩
          have hF2 := (hF.below hb1).below hb2
          have hD2 := (hD.below hb1).below hb2
          have hT12 := hS.le
          have hm29 := fun (W : World) => hZ29.run T W (by omega)
          have hst := (hZ29.row1 w2 T).congr (g := fun i => .int .i64 (if i < 0 then F i else 0)) (fun i _ => by simp)
          go_wp2
          clear hm29
          go_loopw [25] (fun i wr => ∃ k : Nat, k ≤ T ∧ i = .int .i64 k ∧ wr.rowIs w2.heap.size 3 T (fun i => .int .i64 (if i < k then F i else 0)) ∧ Below w2.heap.size w2 wr) (fun i _ => T - (intOf i).toNat)
          case atStart => exact ⟨0, Nat.zero_le _, rfl, hst, (Below.refl _ _).alloc (Nat.le_refl _) _⟩
          case round =>
            obtain ⟨k, hk, rfl, hfs, hb3⟩ := hrel
            clear hst
            by_cases hlt : k < T
            · have hF3 := hF2.below hb3
              have ha := hF3.at_ hlt
              subst ha
              have c0 := hF3.cell k hlt
              have d0 := hfs.cell hlt
              have f0 := hfs.frozen k
              have HS := hid_mk ((hfs.set k (.int .i64 (F k))).congr (fill_step (Value.int .i64) F 0 k))
              have HB := hid_mk (hb3.setCell (p := ⟨w2.heap.size, k, none⟩) (Nat.le_refl _) (.int .i64 (F k)))
              clear hF3 hfs hb3 hF2 hD2 r1 r2 r3 r4 r5 hM1 hM hF hD hZ38 hZ23 hZ41 hZ29 hZ60 hN2 hb2
              go_wp2
              go_roundw
              case rel => exact ⟨k + 1, by omega, by go_num, HS.out, HB.out⟩
              case measure => simp [intOf]; omega
            · obtain rfl : T = k := by omega
              clear hlt hk
              obtain ⟨w3, rfl⟩ : ∃ w3 : World, w3 = wr := ⟨_, rfl⟩
              obtain ⟨Z61, hZ61⟩ := made61
              have rf := hfs.congr (g := fun i => .int .i64 (F i)) (fun i h => by rw [if_pos h])
              have hD3 := hD2.below hb3
              have hm61 := fun (W : World) => hZ61.run T W (by omega)
              have hst := (hZ61.row1 w3 T).congr (g := vmsF (fN F) (fun _ => 0) 0) (fun i _ => by simp [vmsF])
              go_wp2
              clear hm61
              go_loopw [27, 28, 29] (fun s o i wr => ∃ (t p q : Nat) (vb : Nat → Nat), t ≤ T ∧ i = .int .i64 t ∧ s = .int .i64 p ∧ o = .int .i64 q ∧ p = Pl.prodTo (fN F) t ∧ q = Pl.offTo (fN F) t ∧ wr.rowIs w3.heap.size 23 T (vmsF (fN F) vb t) ∧
                (∀ i, i < t → w3.heap.size < vb i ∧ wr.rowIs (vb i) 22 (Pl.prodTo (fN F) (i + 1)) (fun v => .int .u64 (dig nd D (Pl.offTo (fN F) i + v)))) ∧ Below w3.heap.size w3 wr) (fun _ _ i _ => T - (intOf i).toNat)
              case atStart => exact ⟨0, 1, 0, fun _ => 0, Nat.zero_le _, rfl, rfl, rfl, rfl, rfl, hst, fun i hi => by omega, (Below.refl _ _).alloc (Nat.le_refl _) _⟩
              case round =>
                obtain ⟨t, p, q, vb, ht, rfl, rfl, rfl, hp, hq, hvm, hvb, hb4⟩ := hrel
                clear hst
                by_cases hlt : t < T
                · have hx1 := hS.one t hlt
                  have hFt := hS.eq t hlt
                  have c0 := (kept_row rf hb4).cell hlt
                  rw [hFt] at c0
                  have hpx : p * fN F t ≤ 4096 := by
                    rw [hp, ← Pl.prodTo_succ]
                    exact Nat.le_trans (Pl.prodTo_le (show t + 1 ≤ T from hlt) hS.one) hS.prod
                  have hq2 : q ≤ 49152 := by
                    rw [hq]
                    have := Pl.offTo_le hS.one hS.prod (Nat.le_of_lt hlt)
                    have := Nat.mul_le_mul (show t ≤ 12 by omega) (Nat.le_refl 4096)
                    omega
                  obtain ⟨s, hs⟩ : ∃ s, s = p * fN F t := ⟨_, rfl⟩
                  have hss : (p : Int) * (fN F t : Int) = (s : Int) := by rw [hs]; simp
                  rw [← hs] at hpx
                  have HP := hid_mk (hs.trans (by rw [hp, ← Pl.prodTo_succ]))
                  have HQ := hid_mk hq
                  have HVM := hid_mk hvm
                  have HVB := hid_mk hvb
                  have HB4 := hid_mk hb4
                  have hm23 := fun (W : World) => hZ23.run s W (by omega)
                  have d0 := hvm.cell hlt
                  have f0 := hvm.frozen t
                  have hVlt := hvm.lt
                  have hD4 := hD3.below hb4
                  have hst := ((hZ23.row1 wr s).congr (g := fun i => .int .u64 (if i < 0 then dig nd D (q + i) else 0)) (fun i _ => by simp))
                  generalize fN F t = x at c0 hx1 hss
                  clear hp hq hvm hvb hb4 hFt hs r1 r2 r3 r4 r5 hM1 hM hF hD hZ38 hZ23 hZ41 hZ29 hZ60 hZ61 hN2 hb2 hb3 hF2 hD2 hD3 rf hfs
                  obtain ⟨w4, rfl⟩ : ∃ w4 : World, w4 = wr := ⟨_, rfl⟩
                  go_wp2
                  clear hm23
                  go_loopw [31] (fun i wx => ∃ v : Nat, v ≤ s ∧ i = .int .i64 v ∧ wx.rowIs w4.heap.size 22 s (fun i => .int .u64 (if i < v then dig nd D (q + i) else 0)) ∧ Below w4.heap.size w4 wx) (fun i _ => s - (intOf i).toNat)
                  case atStart => exact ⟨0, Nat.zero_le _, rfl, hst, (Below.refl _ _).alloc (Nat.le_refl _) _⟩
                  case round =>
                    obtain ⟨v, hv, rfl, hrow, hbx⟩ := hrel
                    clear hst
                    by_cases hlv : v < s
                    · have e0 := hrow.cell hlv
                      have g0 := hrow.frozen v
                      have HR := hid_mk ((hrow.set v (.int .u64 (dig nd D (q + v)))).congr (fill_step (Value.int .u64) (fun i => dig nd D (q + i)) 0 v))
                      have HBX := hid_mk (hbx.setCell (p := ⟨w4.heap.size, v, none⟩) (Nat.le_refl _) (.int .u64 (dig nd D (q + v))))
                      have hD5 := hD4.below hbx
                      clear hrow hbx hD4
                      go_wp2_with fail
                      refine (dig_callsI da nd dcap db doff D _ (q + v) _ (by omega) hnd (by omega) hD5).mono ?_
                      rintro e w5 ⟨rfl, rfl⟩
                      clear hD5
                      go_wp2
                      go_roundw
                      case rel => exact ⟨v + 1, by omega, by go_num, HR.out, HBX.out⟩
                      case measure => simp [intOf]; omega
                    · obtain rfl : s = v := by omega
                      have hr := hrow.congr (g := fun v => .int .u64 (dig nd D (Pl.offTo (fN F) t + v))) (fun i h => by rw [if_pos h, HQ.out])
                      have d1 := (hbx.cell (p := ⟨w3.heap.size, t, none⟩) hVlt).trans d0
                      have f1 := (hbx.frozen (p := ⟨w3.heap.size, t, none⟩) hVlt).trans f0
                      have HR := hid_mk hr
                      have HBX := hid_mk hbx
                      clear hlv hv hrow hbx hr hD4 d0 f0
                      go_wp2
                      go_roundw
                      case rel =>
                        refine ⟨t + 1, s, q + s, fun i => if i = t then w4.heap.size else vb i, by omega, by go_num, rfl, by go_num, HP.out, by rw [HQ.out, HP.out]; rfl, ?_, ?_, ?_⟩
                        · refine ((old_row HVM.out HBX.out hVlt).set t _).congr (fun i _ => ?_)
                          exact vms_step HP.out i
                        · intro i hi
                          by_cases e : i = t
                          · subst e
                            dsimp only
                            rw [if_pos rfl, ← HP.out]
                            exact ⟨hVlt, HR.out.setOther (by show w4.heap.size ≠ w3.heap.size; omega) _⟩
                          · dsimp only
                            rw [if_neg e]
                            obtain ⟨k1, k2⟩ := HVB.out i (by omega)
                            exact ⟨k1, (old_row k2 HBX.out k2.lt).setOther (by show vb i ≠ w3.heap.size; omega) _⟩
                        · exact (HB4.out.trans (HBX.out.mono (Nat.le_of_lt hVlt))).setCell (Nat.le_refl _) _
                      case measure => simp [intOf]; omega
                · obtain rfl : T = t := by omega
                  clear hlt ht hp hq
                  have hu4096 : up ≤ 4096 := by omega
                  have hG : Given wr n up T w.heap.size (w.heap.size + 1) (w.heap.size + 2) (w.heap.size + 3) (w.heap.size + 4) w1'.heap.size (w1'.heap.size + 1) w2.heap.size w3.heap.size (downM M j) nid nnm F vb (fun t => Pl.prodTo (fN F) (t + 1)) :=
                    ⟨kept_row (kept_row (kept_row r1 hb2) hb3) hb4, kept_row (kept_row (kept_row r2 hb2) hb3) hb4, kept_row (kept_row (kept_row r3 hb2) hb3) hb4, kept_row (kept_row (kept_row r4 hb2) hb3) hb4, kept_row (kept_row (kept_row r5 hb2) hb3) hb4,
                      kept_row (kept_row hN2.ids hb3) hb4, kept_row (kept_row hN2.nms hb3) hb4, kept_row rf hb4, hvm.congr (fun i h => by unfold vmsF; rw [if_pos h])⟩
                  have hB := (((hb1.trans (hb2.mono hb1.size)).trans (hb3.mono (Nat.le_trans hb1.size hb2.size))).trans (hb4.mono (Nat.le_trans (Nat.le_trans hb1.size hb2.size) hb3.size)))
                  have hVB := hvb
                  have hvlt := hvm.lt
                  clear r1 r2 r3 r4 r5 hM1 hM hF hD hZ38 hZ23 hZ41 hZ29 hZ60 hZ61 hN2 hb1 hb2 hb3 hb4 hF2 hD2 hD3 rf hfs hvm hvb
                  have HVB := hid_mk hVB
                  clear hVB
                  go_wp2_with fail
                  refine (newset_calls n up T w.heap.size (w.heap.size + 1) (w.heap.size + 2) (w.heap.size + 3) (w.heap.size + 4) w1'.heap.size (w1'.heap.size + 1) w2.heap.size w3.heap.size (some ⟨w1'.heap.size + 2, 0, none⟩) up up (downM M j) nid nnm F vb (fun t => Pl.prodTo (fN F) (t + 1)) wr hn hu4096 hT12 hG).mono ?_
                  rintro e w6 ⟨nb, tb, rfl, htb, hNS, htie⟩
                  go_wp2
                  go_ret
                  refine ⟨wr.heap.size, some ⟨w1'.heap.size + 2, 0, none⟩, up, up, wr.heap.size + 1, nb, tb, vb, rfl, hB.size, ⟨?_, hNS.mem, htie, ?_, by omega, by omega, ?_⟩, ⟨⟨_, rfl⟩, HUP.out.symm⟩, hB.trans (hNS.b.mono hB.size)⟩
                  · rw [HUP.out]; exact hNS.set
                  · intro t ht
                    exact kept_row (HVB.out t ht).2 hNS.b
                  · intro t ht
                    have := (HVB.out t ht).2.lt
                    omega
set_option maxRecDepth 100000 in
set_option maxHeartbeats 4000000 in
theorem build_false (a : Option Addr) (n cap b off : Nat) (M : Mems) (fa : Option Addr) (T fcap fb foff : Nat) (F : Nat → Int) (da : Option Addr) (nd dcap db doff : Nat) (D : Nat → Int) (j : Int) (w : World)
    (hn : n ≤ 4096) (hS : ShapeOk F T) (hnd : nd ≤ 1048576) (hM : IsMems w a n b off M) (hF : IsRow w .i64 fa T fb foff F) (hD : IsRow w .u64 da nd db doff D) :
    Calls Trym.prog 19 #[.slice a n cap, .slice fa T fcap, .slice da nd dcap, .bool false, .int .i64 j] w fun e w' =>
      ∃ sp wa wl wc mb nb tb vb, e = .returned (.pointer (some ⟨sp, 0, none⟩)) ∧ w.heap.size ≤ sp ∧ Built w' sp n (Pl.cnt (upB M j) n) T (downM M j) F nd D wa wl wc mb nb tb vb ∧
        (wa = none ∧ wl = 0 ∧ wc = 0) ∧ Below w.heap.size w w' := by
  obtain ⟨Z38, hZ38⟩ := made38
  obtain ⟨Z23, hZ23⟩ := made23
  obtain ⟨Z41, hZ41⟩ := made41
  obtain ⟨Z29, hZ29⟩ := made29
  obtain ⟨Z60, hZ60⟩ := made60
  have hm38 := fun (W : World) => hZ38.run n W (by omega)
  have hm23 := fun (W : World) => hZ23.run n W (by omega)
  have hm41 := fun (W : World) => hZ41.run n W (by omega)
  have hm29 := fun (W : World) => hZ29.run n W (by omega)
  have hm60 := fun (W : World) => hZ60.run n W (by omega)
  go_enter Trym.func19, Trym.ntmps19
  go_wp2
  have h5 := five_start w n (downM M j) hZ38 hZ23 hZ41 hZ29 hZ60
  clear hm38 hm23 hm41 hm29 hm60
  go_loopw [17] (fun i wr => ∃ k : Nat, k ≤ n ∧ i = .int .i64 k ∧ Five w wr w.heap.size n (downM M j) k) (fun i _ => n - (intOf i).toNat)
  case atStart => exact ⟨0, Nat.zero_le _, rfl, h5⟩
  case round =>
    obtain ⟨k, hk, rfl, h5'⟩ := hrel
    clear h5
    by_cases hlt : k < n
    · have hM' := hM.below h5'.b
      have ha := hM'.at_ hlt
      subst ha
      have m0 := hM'.id k hlt
      have m1 := hM'.nm k hlt
      have m2 := hM'.wt k hlt
      have m3 := hM'.slot k hlt
      have m4 := hM'.down k hlt
      have c0 := h5'.ids.cell hlt
      have c1 := h5'.nms.cell hlt
      have c2 := h5'.wts.cell hlt
      have c3 := h5'.sls.cell hlt
      have c4 := h5'.dns.cell hlt
      have f0 := h5'.ids.frozen k
      have f1 := h5'.nms.frozen k
      have f2 := h5'.wts.frozen k
      have f3 := h5'.sls.frozen k
      have f4 := h5'.dns.frozen k
      have hb0 := hM.lt (by omega)
      simp only [Nat.lt_irrefl, if_false] at c0 c1 c2 c3 c4
      have HS := hid_mk h5'.step
      clear h5' hM' hM hF hD hZ38 hZ23 hZ41 hZ29 hZ60
      cases hd : M.down k with
      | true =>
        have hdd : (downM M j).down k = true := by simp [downM, hd]
        rw [hdd] at HS
        rw [hd] at m4
        clear hd hdd
        go_wp2
        go_roundw
        case rel => exact ⟨k + 1, by omega, by go_num, HS.out⟩
        case measure => simp [intOf]; omega
      | false =>
        rw [hd] at m4
        by_cases hj : ((k : Int) == j) = true
        · have hdd : (downM M j).down k = true := by simp only [downM, hd, hj]; rfl
          rw [hdd] at HS
          clear hd hdd
          go_wp2
          go_roundw
          case rel => exact ⟨k + 1, by omega, by go_num, HS.out⟩
          case measure => simp [intOf]; omega
        · have hj' : ((k : Int) == j) = false := by simpa using hj
          have hdd : (downM M j).down k = false := by simp only [downM, hd, hj']; rfl
          rw [hdd] at HS
          clear hd hdd hj
          go_wp2
          go_roundw
          case rel => exact ⟨k + 1, by omega, by go_num, HS.out⟩
          case measure => simp [intOf]; omega
    · obtain rfl : n = k := by omega
      obtain ⟨w1, rfl⟩ : ∃ w1 : World, w1 = wr := ⟨_, rfl⟩
      have r1 := h5'.ids.congr (g := fun i => .string ((downM M j).id i)) (fun i h => by rw [if_pos h])
      have r2 := h5'.nms.congr (g := fun i => .int .u64 ((downM M j).nm i)) (fun i h => by rw [if_pos h])
      have r3 := h5'.wts.congr (g := fun i => .float .f64 ((downM M j).wt i)) (fun i h => by rw [if_pos h])
      have r4 := h5'.sls.congr (g := fun i => .int .i64 ((downM M j).slot i)) (fun i h => by rw [if_pos h])
      have r5 := h5'.dns.congr (g := fun i => .bool ((downM M j).down i)) (fun i h => by rw [if_pos h])
      have hb1 := h5'.b
      clear h5' hk hlt
      have hM1 := hM.below hb1
      go_wp2_with fail
      refine (count_calls a n cap b off M j _ (by omega) hM1).mono ?_
      rintro e w1' ⟨rfl, rfl⟩
      have hul := Pl.cnt_le (upB M j) n
      have HU : Hid (∀ i, i < n → (downM M j).down i = false → Pl.cnt (upB M j) i < Pl.cnt (upB M j) n) := fun i hi hd => Pl.cnt_lt hi (by rw [upB_down, hd]; rfl)
      generalize hup : Pl.cnt (upB M j) n = up at hul HU
      have HUP := hid_mk hup
      clear hup
      have hm38 := fun (W : World) => hZ38.run up W (by omega)
      have hm23 := fun (W : World) => hZ23.run up W (by omega)
      obtain ⟨hN, hNb⟩ := nodes_startF w1' up hZ38 hZ23
      go_wp2
      clear hm38 hm23
      go_loopw [22, 23] (fun c i wr => ∃ (k : Nat) (nid : Nat → ByteArray) (nnm : Nat → Int) (nwt : Nat → Nat), k ≤ n ∧ i = .int .i64 k ∧ c = .int .i64 (Pl.cnt (upB M j) k) ∧ NodeRows wr w1'.heap.size up false nid nnm nwt ∧ Below w1'.heap.size w1' wr) (fun _ i _ => n - (intOf i).toNat)
      case atStart => exact ⟨0, _, _, _, Nat.zero_le _, rfl, rfl, hN, hNb⟩
      case round =>
        obtain ⟨k, nid, nnm, nwt, hk, rfl, rfl, hN2, hb2⟩ := hrel
        clear hN hNb
        by_cases hlt : k < n
        · have c0 := (kept_row r1 hb2).cell hlt
          have c1 := (kept_row r2 hb2).cell hlt
          have c2 := (kept_row r3 hb2).cell hlt
          have c4 := (kept_row r5 hb2).cell hlt
          have hB := r5.lt
          have hcl := Pl.cnt_le (upB M j) k
          cases hd : (downM M j).down k with
          | true =>
            have HC := hid_mk (Pl.cnt_no (p := upB M j) (k := k) (by rw [upB_down, hd]; rfl))
            rw [hd] at c4
            clear hd r1 r2 r3 r4 r5 hM1 hM hF hD hZ38 hZ23 hZ41 hZ29 hZ60
            go_wp2
            go_roundw
            case rel => exact ⟨k + 1, nid, nnm, nwt, by omega, by go_num, by rw [HC.out], hN2, hb2⟩
            case measure => simp [intOf]; omega
          | false =>
            have hcu := HU.out k hlt hd
            have HC := hid_mk (Pl.cnt_yes (p := upB M j) (k := k) (by rw [upB_down, hd]; rfl))
            rw [hd] at c4
            generalize Pl.cnt (upB M j) k = c at hcl hcu HC
            have d0 := hN2.ids.cell hcu
            have d1 := hN2.nms.cell hcu
            
            have f0 := hN2.ids.frozen c
            have f1 := hN2.nms.frozen c
            have HS := hid_mk (hN2.stepF (c := c) ((downM M j).id k) ((downM M j).nm k))
            have HB := hid_mk ((hb2.setCell (p := ⟨w1'.heap.size, c, none⟩) (Nat.le_refl _) (.string ((downM M j).id k))).setCell (p := ⟨w1'.heap.size + 1, c, none⟩) (by show _ ≤ w1'.heap.size + 1; omega) (.int .u64 ((downM M j).nm k)))
            clear hd r1 r2 r3 r4 r5 hM1 hM hF hD hZ38 hZ23 hZ41 hZ29 hZ60 hN2 hb2
            go_wp2
            go_roundw
            case rel =>
              obtain ⟨q1, q2, q3, hq⟩ := HS.out
              exact ⟨k + 1, q1, q2, q3, by omega, by go_num, by rw [HC.out]; go_num, hq, HB.out⟩
            case measure => simp [intOf]; omega
        · obtain rfl : n = k := by omega
          clear hlt hk
          obtain ⟨w2, rfl⟩ : ∃ w2 : World, w2 = wr := ⟨_, rfl⟩
          have hF2 := (hF.below hb1).below hb2
          have hD2 := (hD.below hb1).below hb2
          have hT12 := hS.le
          have hm29 := fun (W : World) => hZ29.run T W (by omega)
          have hst := (hZ29.row1 w2 T).congr (g := fun i => .int .i64 (if i < 0 then F i else 0)) (fun i _ => by simp)
          go_wp2
          clear hm29
          go_loopw [25] (fun i wr => ∃ k : Nat, k ≤ T ∧ i = .int .i64 k ∧ wr.rowIs w2.heap.size 3 T (fun i => .int .i64 (if i < k then F i else 0)) ∧ Below w2.heap.size w2 wr) (fun i _ => T - (intOf i).toNat)
          case atStart => exact ⟨0, Nat.zero_le _, rfl, hst, (Below.refl _ _).alloc (Nat.le_refl _) _⟩
          case round =>
            obtain ⟨k, hk, rfl, hfs, hb3⟩ := hrel
            clear hst
            by_cases hlt : k < T
            · have hF3 := hF2.below hb3
              have ha := hF3.at_ hlt
              subst ha
              have c0 := hF3.cell k hlt
              have d0 := hfs.cell hlt
              have f0 := hfs.frozen k
              have HS := hid_mk ((hfs.set k (.int .i64 (F k))).congr (fill_step (Value.int .i64) F 0 k))
              have HB := hid_mk (hb3.setCell (p := ⟨w2.heap.size, k, none⟩) (Nat.le_refl _) (.int .i64 (F k)))
              clear hF3 hfs hb3 hF2 hD2 r1 r2 r3 r4 r5 hM1 hM hF hD hZ38 hZ23 hZ41 hZ29 hZ60 hN2 hb2
              go_wp2
              go_roundw
              case rel => exact ⟨k + 1, by omega, by go_num, HS.out, HB.out⟩
              case measure => simp [intOf]; omega
            · obtain rfl : T = k := by omega
              clear hlt hk
              obtain ⟨w3, rfl⟩ : ∃ w3 : World, w3 = wr := ⟨_, rfl⟩
              obtain ⟨Z61, hZ61⟩ := made61
              have rf := hfs.congr (g := fun i => .int .i64 (F i)) (fun i h => by rw [if_pos h])
              have hD3 := hD2.below hb3
              have hm61 := fun (W : World) => hZ61.run T W (by omega)
              have hst := (hZ61.row1 w3 T).congr (g := vmsF (fN F) (fun _ => 0) 0) (fun i _ => by simp [vmsF])
              go_wp2
              clear hm61
              go_loopw [27, 28, 29] (fun s o i wr => ∃ (t p q : Nat) (vb : Nat → Nat), t ≤ T ∧ i = .int .i64 t ∧ s = .int .i64 p ∧ o = .int .i64 q ∧ p = Pl.prodTo (fN F) t ∧ q = Pl.offTo (fN F) t ∧ wr.rowIs w3.heap.size 23 T (vmsF (fN F) vb t) ∧
                (∀ i, i < t → w3.heap.size < vb i ∧ wr.rowIs (vb i) 22 (Pl.prodTo (fN F) (i + 1)) (fun v => .int .u64 (dig nd D (Pl.offTo (fN F) i + v)))) ∧ Below w3.heap.size w3 wr) (fun _ _ i _ => T - (intOf i).toNat)
              case atStart => exact ⟨0, 1, 0, fun _ => 0, Nat.zero_le _, rfl, rfl, rfl, rfl, rfl, hst, fun i hi => by omega, (Below.refl _ _).alloc (Nat.le_refl _) _⟩
              case round =>
                obtain ⟨t, p, q, vb, ht, rfl, rfl, rfl, hp, hq, hvm, hvb, hb4⟩ := hrel
                clear hst
                by_cases hlt : t < T
                · have hx1 := hS.one t hlt
                  have hFt := hS.eq t hlt
                  have c0 := (kept_row rf hb4).cell hlt
                  rw [hFt] at c0
                  have hpx : p * fN F t ≤ 4096 := by
                    rw [hp, ← Pl.prodTo_succ]
                    exact Nat.le_trans (Pl.prodTo_le (show t + 1 ≤ T from hlt) hS.one) hS.prod
                  have hq2 : q ≤ 49152 := by
                    rw [hq]
                    have := Pl.offTo_le hS.one hS.prod (Nat.le_of_lt hlt)
                    have := Nat.mul_le_mul (show t ≤ 12 by omega) (Nat.le_refl 4096)
                    omega
                  obtain ⟨s, hs⟩ : ∃ s, s = p * fN F t := ⟨_, rfl⟩
                  have hss : (p : Int) * (fN F t : Int) = (s : Int) := by rw [hs]; simp
                  rw [← hs] at hpx
                  have HP := hid_mk (hs.trans (by rw [hp, ← Pl.prodTo_succ]))
                  have HQ := hid_mk hq
                  have HVM := hid_mk hvm
                  have HVB := hid_mk hvb
                  have HB4 := hid_mk hb4
                  have hm23 := fun (W : World) => hZ23.run s W (by omega)
                  have d0 := hvm.cell hlt
                  have f0 := hvm.frozen t
                  have hVlt := hvm.lt
                  have hD4 := hD3.below hb4
                  have hst := ((hZ23.row1 wr s).congr (g := fun i => .int .u64 (if i < 0 then dig nd D (q + i) else 0)) (fun i _ => by simp))
                  generalize fN F t = x at c0 hx1 hss
                  clear hp hq hvm hvb hb4 hFt hs r1 r2 r3 r4 r5 hM1 hM hF hD hZ38 hZ23 hZ41 hZ29 hZ60 hZ61 hN2 hb2 hb3 hF2 hD2 hD3 rf hfs
                  obtain ⟨w4, rfl⟩ : ∃ w4 : World, w4 = wr := ⟨_, rfl⟩
                  go_wp2
                  clear hm23
                  go_loopw [31] (fun i wx => ∃ v : Nat, v ≤ s ∧ i = .int .i64 v ∧ wx.rowIs w4.heap.size 22 s (fun i => .int .u64 (if i < v then dig nd D (q + i) else 0)) ∧ Below w4.heap.size w4 wx) (fun i _ => s - (intOf i).toNat)
                  case atStart => exact ⟨0, Nat.zero_le _, rfl, hst, (Below.refl _ _).alloc (Nat.le_refl _) _⟩
                  case round =>
                    obtain ⟨v, hv, rfl, hrow, hbx⟩ := hrel
                    clear hst
                    by_cases hlv : v < s
                    · have e0 := hrow.cell hlv
                      have g0 := hrow.frozen v
                      have HR := hid_mk ((hrow.set v (.int .u64 (dig nd D (q + v)))).congr (fill_step (Value.int .u64) (fun i => dig nd D (q + i)) 0 v))
                      have HBX := hid_mk (hbx.setCell (p := ⟨w4.heap.size, v, none⟩) (Nat.le_refl _) (.int .u64 (dig nd D (q + v))))
                      have hD5 := hD4.below hbx
                      clear hrow hbx hD4
                      go_wp2_with fail
                      refine (dig_callsI da nd dcap db doff D _ (q + v) _ (by omega) hnd (by omega) hD5).mono ?_
                      rintro e w5 ⟨rfl, rfl⟩
                      clear hD5
                      go_wp2
                      go_roundw
                      case rel => exact ⟨v + 1, by omega, by go_num, HR.out, HBX.out⟩
                      case measure => simp [intOf]; omega
                    · obtain rfl : s = v := by omega
                      have hr := hrow.congr (g := fun v => .int .u64 (dig nd D (Pl.offTo (fN F) t + v))) (fun i h => by rw [if_pos h, HQ.out])
                      have d1 := (hbx.cell (p := ⟨w3.heap.size, t, none⟩) hVlt).trans d0
                      have f1 := (hbx.frozen (p := ⟨w3.heap.size, t, none⟩) hVlt).trans f0
                      have HR := hid_mk hr
                      have HBX := hid_mk hbx
                      clear hlv hv hrow hbx hr hD4 d0 f0
                      go_wp2
                      go_roundw
                      case rel =>
                        refine ⟨t + 1, s, q + s, fun i => if i = t then w4.heap.size else vb i, by omega, by go_num, rfl, by go_num, HP.out, by rw [HQ.out, HP.out]; rfl, ?_, ?_, ?_⟩
                        · refine ((old_row HVM.out HBX.out hVlt).set t _).congr (fun i _ => ?_)
                          exact vms_step HP.out i
                        · intro i hi
                          by_cases e : i = t
                          · subst e
                            dsimp only
                            rw [if_pos rfl, ← HP.out]
                            exact ⟨hVlt, HR.out.setOther (by show w4.heap.size ≠ w3.heap.size; omega) _⟩
                          · dsimp only
                            rw [if_neg e]
                            obtain ⟨k1, k2⟩ := HVB.out i (by omega)
                            exact ⟨k1, (old_row k2 HBX.out k2.lt).setOther (by show vb i ≠ w3.heap.size; omega) _⟩
                        · exact (HB4.out.trans (HBX.out.mono (Nat.le_of_lt hVlt))).setCell (Nat.le_refl _) _
                      case measure => simp [intOf]; omega
                · obtain rfl : T = t := by omega
                  clear hlt ht hp hq
                  have hu4096 : up ≤ 4096 := by omega
                  have hG : Given wr n up T w.heap.size (w.heap.size + 1) (w.heap.size + 2) (w.heap.size + 3) (w.heap.size + 4) w1'.heap.size (w1'.heap.size + 1) w2.heap.size w3.heap.size (downM M j) nid nnm F vb (fun t => Pl.prodTo (fN F) (t + 1)) :=
                    ⟨kept_row (kept_row (kept_row r1 hb2) hb3) hb4, kept_row (kept_row (kept_row r2 hb2) hb3) hb4, kept_row (kept_row (kept_row r3 hb2) hb3) hb4, kept_row (kept_row (kept_row r4 hb2) hb3) hb4, kept_row (kept_row (kept_row r5 hb2) hb3) hb4,
                      kept_row (kept_row hN2.ids hb3) hb4, kept_row (kept_row hN2.nms hb3) hb4, kept_row rf hb4, hvm.congr (fun i h => by unfold vmsF; rw [if_pos h])⟩
                  have hB := (((hb1.trans (hb2.mono hb1.size)).trans (hb3.mono (Nat.le_trans hb1.size hb2.size))).trans (hb4.mono (Nat.le_trans (Nat.le_trans hb1.size hb2.size) hb3.size)))
                  have hVB := hvb
                  have hvlt := hvm.lt
                  clear r1 r2 r3 r4 r5 hM1 hM hF hD hZ38 hZ23 hZ41 hZ29 hZ60 hZ61 hN2 hb1 hb2 hb3 hb4 hF2 hD2 hD3 rf hfs hvm hvb
                  have HVB := hid_mk hVB
                  clear hVB
                  go_wp2_with fail
                  refine (newset_calls n up T w.heap.size (w.heap.size + 1) (w.heap.size + 2) (w.heap.size + 3) (w.heap.size + 4) w1'.heap.size (w1'.heap.size + 1) w2.heap.size w3.heap.size none 0 0 (downM M j) nid nnm F vb (fun t => Pl.prodTo (fN F) (t + 1)) wr hn hu4096 hT12 hG).mono ?_
                  rintro e w6 ⟨nb, tb, rfl, htb, hNS, htie⟩
                  go_wp2
                  go_ret
                  refine ⟨wr.heap.size, none, 0, 0, wr.heap.size + 1, nb, tb, vb, rfl, hB.size, ⟨?_, hNS.mem, htie, ?_, by omega, by omega, ?_⟩, ⟨rfl, rfl, rfl⟩, hB.trans (hNS.b.mono hB.size)⟩
                  · rw [HUP.out]; exact hNS.set
                  · intro t ht
                    exact kept_row (HVB.out t ht).2 hNS.b
                  · intro t ht
                    have := (HVB.out t ht).2.lt
                    omega
end Go.Proofs.Qxb6600905aMods
