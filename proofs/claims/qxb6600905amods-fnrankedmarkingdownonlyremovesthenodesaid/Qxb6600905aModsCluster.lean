/-
  (*Set).cluster: the counting sort by leaf cluster and the live marks.
-/
import Derived.Test.Qxb6600905aModsCluPre
import Derived.Laws.CopyOwn
namespace Go.Proofs.Qxb6600905aMods
open Go.RowKit
attribute [local go_sem] run_store_float

/-- The starts of the clusters, as cells. -/
def startCells (U : Nat → Bool) (L : Nat → Nat) (n C : Nat) : List Value := (List.range C).map (fun l => Value.int .i64 (start U L n l))

theorem startCells_length (U : Nat → Bool) (L : Nat → Nat) (n C : Nat) : (startCells U L n C).length = C := by simp [startCells]

theorem startCells_at {w : World} {U : Nat → Bool} {L : Nat → Nat} {n C bb : Nat} (h : w.rowIs bb 3 (C + 1) (fun l => .int .i64 (start U L n l))) :
    ∀ j v, (startCells U L n C)[j]? = some v → w.cell? ((⟨bb, 0, none⟩ : Addr).add j) = some v := by
  intro j v hv
  have hj : j < C := by
    rcases Nat.lt_or_ge j C with h' | h'
    · exact h'
    · rw [List.getElem?_eq_none (by rw [startCells_length]; exact h')] at hv; cases hv
  rw [startCells, List.getElem?_map, List.getElem?_range hj] at hv
  rw [Go.WideShapes.add_plain, Nat.zero_add, ← hv]
  exact h.cell (by omega)

theorem startCells_one (U : Nat → Bool) (L : Nat → Nat) (n C : Nat) : ∀ v ∈ startCells U L n C, v.oneCell' = true := by
  intro v hv
  rw [startCells, List.mem_map] at hv
  obtain ⟨c, _, rfl⟩ := hv; rfl

/-- What copy leaves. -/
theorem copied_row {w : World} {g C : Nat} {cur : Array Value} {U : Nat → Bool} {L : Nat → Nat} {n : Nat} (hg : w.heap[g]? = some (.cells cur 3 (0, 0))) (hs : cur.size = C) :
    (w.setRow g (cur.toList.take 0 ++ (startCells U L n C ++ cur.toList.drop (0 + (startCells U L n C).length))).toArray).rowIs g 3 C (fun l => .int .i64 (start U L n l + cl U L l 0 : Nat)) := by
  have e : cur.toList.take 0 ++ (startCells U L n C ++ cur.toList.drop (0 + (startCells U L n C).length)) = startCells U L n C := by
    rw [startCells_length, List.drop_of_length_le (by simp; omega)]; simp
  rw [e]
  refine ⟨_, setRow_heap _ _ _ _ _ _ hg, by simp [startCells_length], fun i hi => ?_⟩
  simp [startCells, hi, cl, Pl.cnt]

theorem bnd_stored {U : Nat → Bool} {L : Nat → Nat} {k : Nat} (hu : U k = true) (l : Nat) :
    (if l = L k + 1 then Value.int .i64 ((bnd U L k (L k + 1) : Nat) + 1) else Value.int .i64 (bnd U L k l : Nat)) = Value.int .i64 (bnd U L (k + 1) l : Nat) := by
  rw [bnd_step hu]
  split
  · rw [Int.natCast_add]; rfl
  · rfl

theorem bsum_stored {U : Nat → Bool} {L : Nat → Nat} {n l : Nat} (hl : 1 ≤ l) (j : Nat) :
    (if j = l then Value.int .i64 ((bsum U L n l l : Nat) + (bsum U L n l (l - 1) : Nat) : Int) else Value.int .i64 (bsum U L n l j : Nat)) = Value.int .i64 (bsum U L n (l + 1) j : Nat) := by
  rw [bsum_step hl]
  split
  · rw [Int.natCast_add]
  · rfl

theorem bsum_le {U : Nat → Bool} {L : Nat → Nat} {n C l j : Nat} (hL : ∀ i, i < n → L i < C) (hj : j ≤ C) : bsum U L n l j ≤ n := by
  unfold bsum; split
  · exact start_bound hL hj
  · exact bnd_le

/-- 'copy(next, bounds)': the starts of the clusters, but for the last. -/
theorem run_copy_start {U : Nat → Bool} {L : Nat → Nat} {n : Nat} (w : World) (bb g C : Nat)
    (hrow : w.rowIs bb 3 (C + 1) (fun l => .int .i64 (start U L n l))) (hg : ∃ cur, w.heap[g]? = some (.cells cur 3 (0, 0)) ∧ cur.size = C)
    (w0 : World) (B : Nat) (hb : Below B w0 w) (hBg : B ≤ g) :
    ∃ w', (Builtin.copy_ #[29, 29] 3 #[.slice (some ⟨g, 0, none⟩) C C, .slice (some ⟨bb, 0, none⟩) (C + 1) (C + 1)]).run Trym.prog w = .ok (.int .i64 (C : Int)) w' ∧
      w'.rowIs g 3 C (fun l => .int .i64 (start U L n l + cl U L l 0 : Nat)) ∧ Below B w0 w' := by
  obtain ⟨cur, hg1, hg2⟩ := hg
  have h := run_copy_row (P := Trym.prog) w 29 29 3 3 g 0 C C ⟨bb, 0, none⟩ (C + 1) (C + 1) cur 3 (startCells U L n C) Trym.underlying29 (by kernel_rfl) hg1
    (by rw [startCells_length]; show C = min (C + 1) C; omega) (startCells_at hrow) (by rw [startCells_length]; omega) (startCells_one U L n C)
  have e : goInt (startCells U L n C).length = .int .i64 (C : Int) := by rw [startCells_length]; rfl
  rw [e] at h
  exact ⟨_, h, copied_row hg1 hg2, below_setRow hb hBg _⟩

/-- Place 'p' among the nodes holds member 'i'. -/
def EqAt (M : Mems) (ni : Nat → ByteArray) (nn : Nat → Int) (wt : Nat → Nat) (wtd : Bool) (i p : Nat) : Prop := ni p = M.id i ∧ nn p = M.nm i ∧ (wtd = true → wt p = M.wt i)

/-- The rows of the counting sort behind 'k' members. -/
structure Sorted (wr : World) (NX NB WB C up n k : Nat) (wtd : Bool) (M : Mems) (U : Nat → Bool) (L : Nat → Nat) (ni : Nat → ByteArray) (nn : Nat → Int) (wt : Nat → Nat) : Prop where
  nx : wr.rowIs NX 3 C (fun l => .int .i64 (start U L n l + cl U L l k : Nat))
  nod : wr.rowIs NB 70 (up * 2) (nodeF ni nn)
  wts : wtd = true → wr.rowIs WB 45 up (fun p => .float .f64 (wt p))
  eq : ∀ i, i < k → U i = true → EqAt M ni nn wt wtd i (pos U L n i)

section
variable {wr : World} {NX NB WB C up n k : Nat} {M : Mems} {U : Nat → Bool} {L : Nat → Nat} {ni : Nat → ByteArray} {nn : Nat → Int} {wt : Nat → Nat} {wtd : Bool}

theorem Sorted.skip (h : Sorted wr NX NB WB C up n k wtd M U L ni nn wt) (hu : U k = false) (o : Obj) : Sorted (wr.alloc o) NX NB WB C up n (k + 1) wtd M U L ni nn wt :=
  ⟨(h.nx.alloc o).congr (fun l _ => by rw [cl_no (fun g => by rw [hu] at g; cases g.1)]), h.nod.alloc o, fun e => (h.wts e).alloc o,
    fun i hi hui => by by_cases e : i = k; (subst e; rw [hu] at hui; cases hui); exact h.eq i (by omega) hui⟩

theorem Sorted.drew (h : Sorted wr NX NB WB C up n k wtd M U L ni nn wt) : Sorted wr.drew NX NB WB C up n k wtd M U L ni nn wt := ⟨h.nx, h.nod, h.wts, h.eq⟩

theorem nx_step (hu : U k = true) (l : Nat) :
    (if l = L k then Value.int .i64 ((pos U L n k : Nat) + 1 : Int) else Value.int .i64 (start U L n l + cl U L l k : Nat)) = Value.int .i64 (start U L n l + cl U L l (k + 1) : Nat) := by
  by_cases e : l = L k
  · subst e
    rw [if_pos rfl, cl_yes hu rfl]
    unfold pos
    congr 1
  · rw [if_neg e, cl_no (fun g => e g.2.symm)]

theorem Sorted.stepT (h : Sorted wr NX NB (NB + 1) C up n k true M U L ni nn wt) (hk : k < n) (hu : U k = true) (hN : NX < NB) (o : Obj) :
    Sorted ((((((wr).setCell ⟨NB, pos U L n k * 2, none⟩ (.string (M.id k))).setCell ⟨NB, pos U L n k * 2 + 1, none⟩ (.int .u64 (M.nm k))).setCell ⟨NB + 1, pos U L n k, none⟩ (.float .f64 (M.wt k))).setCell ⟨NX, L k, none⟩ (.int .i64 ((pos U L n k : Nat) + 1 : Int))).alloc o)
      NX NB (NB + 1) C up n (k + 1) true M U L (fun i => if i = pos U L n k then M.id k else ni i) (fun i => if i = pos U L n k then M.nm k else nn i) (fun i => if i = pos U L n k then M.wt k else wt i) := by
  refine ⟨?_, ?_, fun _ => ?_, ?_⟩
  · exact (((((h.nx.setOther (by show NX ≠ NB; omega) _).setOther (by show NX ≠ NB; omega) _).setOther (by show NX ≠ NB + 1; omega) _).set _ _).congr (fun l _ => nx_step hu l)).alloc o
  · exact (((node_set h.nod _ _).setOther (by show NB ≠ NB + 1; omega) _).setOther (by show NB ≠ NX; omega) _).alloc o
  · exact (((((h.wts rfl).setOther (by show NB + 1 ≠ NB; omega) _).setOther (by show NB + 1 ≠ NB; omega) _).set _ _ |>.congr (upd_float _ _ _)).setOther (by show NB + 1 ≠ NX; omega) _).alloc o
  · intro i hi hui
    by_cases e : i = k
    · subst e; simp [EqAt]
    · have hne : pos U L n i ≠ pos U L n k := fun q => e (pos_inj (by omega) hk hui hu q)
      unfold EqAt
      simp only [if_neg hne]
      obtain ⟨q1, q2, q3⟩ := h.eq i (by omega) hui
      exact ⟨q1, q2, fun _ => q3 rfl⟩

theorem Sorted.stepF (h : Sorted wr NX NB (NB + 1) C up n k false M U L ni nn wt) (hk : k < n) (hu : U k = true) (hN : NX < NB) (o : Obj) :
    Sorted (((((wr).setCell ⟨NB, pos U L n k * 2, none⟩ (.string (M.id k))).setCell ⟨NB, pos U L n k * 2 + 1, none⟩ (.int .u64 (M.nm k))).setCell ⟨NX, L k, none⟩ (.int .i64 ((pos U L n k : Nat) + 1 : Int))).alloc o)
      NX NB (NB + 1) C up n (k + 1) false M U L (fun i => if i = pos U L n k then M.id k else ni i) (fun i => if i = pos U L n k then M.nm k else nn i) wt := by
  refine ⟨?_, ?_, (fun e => by cases e), ?_⟩
  · exact ((((h.nx.setOther (by show NX ≠ NB; omega) _).setOther (by show NX ≠ NB; omega) _).set _ _).congr (fun l _ => nx_step hu l)).alloc o
  · exact ((node_set h.nod _ _).setOther (by show NB ≠ NX; omega) _).alloc o
  · intro i hi hui
    by_cases e : i = k
    · subst e; simp [EqAt]
    · have hne : pos U L n i ≠ pos U L n k := fun q => e (pos_inj (by omega) hk hui hu q)
      unfold EqAt
      simp only [if_neg hne]
      obtain ⟨q1, q2, q3⟩ := h.eq i (by omega) hui
      exact ⟨q1, q2, fun e => by cases e⟩
end

theorem sorted_startT (w3 : World) (NX C up n : Nat) {M : Mems} {U : Nat → Bool} {L : Nat → Nat} {Z65 Z41 : Nat → Array Value} (h1 : Makes 65 70 2 (nodeC ByteArray.empty 0) Z65) (h2 : Makes 41 45 1 (fun _ => .float .f64 0) Z41)
    (hnx : w3.rowIs NX 3 C (fun l => .int .i64 (start U L n l + cl U L l 0 : Nat))) :
    Sorted ((w3.alloc (.cells (Z65 up) 70)).alloc (.cells (Z41 up) 45)) NX w3.heap.size (w3.heap.size + 1) C up n 0 true M U L (fun _ => ByteArray.empty) (fun _ => 0) (fun _ => 0) := by
  have e1 := h1.row w3 up
  have e2 := h2.row1 (w3.alloc (.cells (Z65 up) 70)) up
  simp only [World.size_alloc] at e1 e2
  exact ⟨(hnx.alloc _).alloc _, (e1.alloc _).congr (fun c _ => rfl), fun _ => e2, fun i hi => by omega⟩

theorem sorted_startF (w3 : World) (NX C up n : Nat) {M : Mems} {U : Nat → Bool} {L : Nat → Nat} {Z65 : Nat → Array Value} (h1 : Makes 65 70 2 (nodeC ByteArray.empty 0) Z65)
    (hnx : w3.rowIs NX 3 C (fun l => .int .i64 (start U L n l + cl U L l 0 : Nat))) :
    Sorted (w3.alloc (.cells (Z65 up) 70)) NX w3.heap.size (w3.heap.size + 1) C up n 0 false M U L (fun _ => ByteArray.empty) (fun _ => 0) (fun _ => 0) :=
  ⟨hnx.alloc _, (h1.row w3 up).congr (fun c _ => rfl), (fun e => by cases e), fun i hi => by omega⟩

/-- The set as cluster leaves it. -/
structure Clus (w : World) (sp n T C up : Nat) (M : Mems) (F : Nat → Int) (nd : Nat) (D : Nat → Int) (wtd : Bool) (mb nb wb bb g cap : Nat) (vb lb : Nat → Nat) (ni : Nat → ByteArray) (nn : Nat → Int) (wt : Nat → Nat) : Prop where
  set : w.rowIs sp 68 7 (setC (.slice (some ⟨mb, 0, none⟩) n n) (.slice (some ⟨nb, 0, none⟩) up up) (if wtd = true then .slice (some ⟨wb, 0, none⟩) up up else .slice none 0 0) true (.slice (some ⟨g, 0, none⟩) T cap) (.slice (some ⟨bb, 0, none⟩) (C + 1) (C + 1)))
  tie : TierRow w g cap T F vb lb 0
  vms : ∀ t, t < T → w.rowIs (vb t) 22 (szF F t) (fun v => .int .u64 (dig nd D (Pl.offTo (fN F) t + v)))
  live : ∀ t, t < T → w.rowIs (lb t) 22 (szF F t) (fun v => .int .u64 (liveV (lvB (occB (fun i => !M.down i) (lf M C) n) (fN F) T t v)))
  bds : w.rowIs bb 3 (C + 1) (fun l => .int .i64 (start (fun i => !M.down i) (lf M C) n l : Nat))
  nod : w.rowIs nb 70 (up * 2) (nodeF ni nn)
  wts : wtd = true → w.rowIs wb 45 up (fun p => .float .f64 (wt p))
  eq : ∀ i, i < n → M.down i = false → EqAt M ni nn wt wtd i (pos (fun i => !M.down i) (lf M C) n i)

theorem start_live {U : Nat → Bool} {L : Nat → Nat} {n v : Nat} : start U L n v < start U L n (v + 1) ↔ occB U L n v = true := by
  rw [start_succ]; simp [occB]

theorem bits_or_live (a b : Bool) : bits .or .u64 (liveV a) (liveV b) = liveV (a || b) := by
  cases a <;> cases b <;> kernel_rfl

theorem liveV_true : liveV true = 18446744073709551615 := if_pos rfl
theorem liveV_false : liveV false = 0 := if_neg (by decide)

theorem live_yes {p : Nat → Bool} {v : Nat} (hv : p v = true) {n : Nat} : ∀ i, i < n → (if i = v then Value.int .u64 18446744073709551615 else Value.int .u64 (if i < v then liveV (p i) else 0)) = Value.int .u64 (if i < v + 1 then liveV (p i) else 0) := by
  intro i _
  by_cases h : i = v
  · subst h; rw [if_pos rfl, if_pos (by omega), hv, liveV_true]
  · rw [if_neg h]
    by_cases h2 : i < v
    · rw [if_pos h2, if_pos (by omega)]
    · rw [if_neg h2, if_neg (by omega)]

theorem live_no {p : Nat → Bool} {v : Nat} (hv : p v = false) {n : Nat} : ∀ i, i < n → Value.int .u64 (if i < v then liveV (p i) else 0) = Value.int .u64 (if i < v + 1 then liveV (p i) else 0) := by
  intro i _
  by_cases h : i = v
  · subst h; rw [if_neg (by omega), if_pos (by omega), hv, liveV_false]
  · by_cases h2 : i < v
    · rw [if_pos h2, if_pos (by omega)]
    · rw [if_neg h2, if_neg (by omega)]

theorem set3_row {w4 : World} {sp : Nat} {ms ns ws ts bs : Value} (h : w4.rowIs sp 68 7 (setC ms ns ws true ts bs)) (v1 v2 v6 : Value) :
    (((w4.setCell ⟨sp, 1, none⟩ v1).setCell ⟨sp, 2, none⟩ v2).setCell ⟨sp, 6, none⟩ v6).rowIs sp 68 7 (setC ms v1 v2 true ts v6) := by
  have h1 := (h.set 1 v1).congr (set_field1 (v := v1))
  have h2 := (h1.set 2 v2).congr (set_field2 (v := v2))
  exact (h2.set 6 v6).congr (set_field6 (v := v6))

theorem set3_but {w w4 : World} {sp B : Nat} (h : But sp B w w4) (v1 v2 v6 : Value) : But sp B w (((w4.setCell ⟨sp, 1, none⟩ v1).setCell ⟨sp, 2, none⟩ v2).setCell ⟨sp, 6, none⟩ v6) :=
  ((h.setCell (p := ⟨sp, 1, none⟩) (Or.inr rfl) v1).setCell (p := ⟨sp, 2, none⟩) (Or.inr rfl) v2).setCell (p := ⟨sp, 6, none⟩) (Or.inr rfl) v6

theorem set3_block {w4 : World} {sp k : Nat} (hk : k ≠ sp) (v1 v2 v6 : Value) : (((w4.setCell ⟨sp, 1, none⟩ v1).setCell ⟨sp, 2, none⟩ v2).setCell ⟨sp, 6, none⟩ v6).heap[k]? = w4.heap[k]? :=
  ((Below.heap_setCell _ ⟨sp, 6, none⟩ v6 k hk).trans (Below.heap_setCell _ ⟨sp, 2, none⟩ v2 k hk)).trans (Below.heap_setCell _ ⟨sp, 1, none⟩ v1 k hk)

theorem set3_size {w4 : World} {sp : Nat} (v1 v2 v6 : Value) : (((w4.setCell ⟨sp, 1, none⟩ v1).setCell ⟨sp, 2, none⟩ v2).setCell ⟨sp, 6, none⟩ v6).heap.size = w4.heap.size := by simp [World.setCell]

/-- The tiers from 'm' on have their live marks. -/
structure LR (w5 wr : World) (g cap T : Nat) (F : Nat → Int) (vb lb : Nat → Nat) (occ : Nat → Bool) (m : Nat) : Prop where
  tie : TierRow wr g cap T F vb lb m
  live : ∀ t, m ≤ t → t < T → w5.heap.size ≤ lb t ∧ wr.rowIs (lb t) 22 (szF F t) (fun v => .int .u64 (liveV (lvB occ (fN F) T t v)))
  but : But g w5.heap.size w5 wr
  gl : g < w5.heap.size

theorem LR.step {w5 w6 wx : World} {g cap T : Nat} {F : Nat → Int} {vb lb : Nat → Nat} {occ : Nat → Bool} {t : Nat} (h : LR w5 w6 g cap T F vb lb occ (t + 1)) (hbx : Below w6.heap.size w6 wx)
    (hrow : wx.rowIs w6.heap.size 22 (szF F t) (fun v => .int .u64 (liveV (lvB occ (fN F) T t v)))) :
    LR w5 (wx.setCell ⟨g, t * 3 + 2, none⟩ (.slice (some ⟨w6.heap.size, 0, none⟩) (szF F t) (szF F t))) g cap T F vb (fun i => if i = t then w6.heap.size else lb i) occ t := by
  have hs := h.but.size
  have hgl := h.gl
  refine ⟨(h.tie.of_block (hbx.block g h.tie.lt)).store, ?_, ?_, h.gl⟩
  · intro i h1 h2
    by_cases e : i = t
    · subst e
      simp only [if_true]
      exact ⟨hs, hrow.setOther (by show w6.heap.size ≠ g; omega) _⟩
    · obtain ⟨k1, k2⟩ := h.live i (by omega) h2
      simp only [if_neg e]
      exact ⟨k1, (old_row k2 hbx k2.lt).setOther (by show lb i ≠ g; omega) _⟩
  · exact ((h.but).trans (But.of_below (hbx.mono hs))).setCell (p := ⟨g, t * 3 + 2, none⟩) (Or.inr rfl) _

/-- The live marks of one tier while they are made: the first 'v' are made, 'q' stands at 'v'. -/
def liveF (p : Nat → Bool) (q : Int) (v i : Nat) : Int := if i < v then liveV (p i) else if i = v then q else 0

theorem liveF_start (p : Nat → Bool) (v : Nat) {n : Nat} : ∀ i, i < n → Value.int .u64 (if i < v then liveV (p i) else 0) = Value.int .u64 (liveF p 0 v i) := by
  intro i _; unfold liveF
  split
  · rfl
  · split <;> rfl
theorem liveF_store (p : Nat → Bool) (q q' : Int) (v : Nat) {n : Nat} : ∀ i, i < n → (if i = v then Value.int .u64 q' else Value.int .u64 (liveF p q v i)) = Value.int .u64 (liveF p q' v i) := by
  intro i _; unfold liveF
  by_cases e : i = v
  · subst e; simp
  · rw [if_neg e]
    by_cases h : i < v
    · rw [if_pos h, if_pos h]
    · rw [if_neg h, if_neg h, if_neg e, if_neg e]
theorem liveF_end (p : Nat → Bool) (v : Nat) {n : Nat} : ∀ i, i < n → Value.int .u64 (liveF p (liveV (p v)) v i) = Value.int .u64 (if i < v + 1 then liveV (p i) else 0) := by
  intro i _; unfold liveF
  by_cases e : i = v
  · subst e; simp
  · by_cases h : i < v
    · rw [if_pos h, if_pos (by omega)]
    · rw [if_neg h, if_neg e, if_neg (by omega)]
theorem liveF_at (p : Nat → Bool) (q : Int) (v : Nat) : liveF p q v v = q := by unfold liveF; simp

theorem clus_but {w w5 wr : World} {sp g tb : Nat} {v : Value} (h5 : But sp w.heap.size w w5) (hb : But g w5.heap.size w5 wr) (hg : w.heap.size ≤ g) : But sp w.heap.size w (wr.setCell ⟨sp, tb, none⟩ v) :=
  (h5.trans ((hb.mono h5.size).other hg)).setCell (p := ⟨sp, tb, none⟩) (Or.inr rfl) v

theorem clus_done {w w5 wr : World} {sp n T C up : Nat} {M : Mems} {F : Nat → Int} {nd : Nat} {D : Nat → Int} {wtd : Bool} {mb nb wb bb g cap : Nat} {vb lb : Nat → Nat} {ni : Nat → ByteArray} {nn : Nat → Int} {wt : Nat → Nat} {occ : Nat → Bool} {v : Value}
    (hC : Pl.prodTo (fN F) T = C) (ho : occB (fun i => !M.down i) (lf M C) n = occ)
    (hset : (wr.setCell ⟨sp, 5, none⟩ v).rowIs sp 68 7 (setC (.slice (some ⟨mb, 0, none⟩) n n) (.slice (some ⟨nb, 0, none⟩) up up) (if wtd = true then .slice (some ⟨wb, 0, none⟩) up up else .slice none 0 0) true (.slice (some ⟨g, 0, none⟩) T cap) (.slice (some ⟨bb, 0, none⟩) (C + 1) (C + 1))))
    (hR : LR w5 wr g cap T F vb lb occ 0) (hbds : w5.rowIs bb 3 (C + 1) (fun l => .int .i64 (start (fun i => !M.down i) (lf M C) n l : Nat))) (hnod : w5.rowIs nb 70 (up * 2) (nodeF ni nn))
    (hwts : wtd = true → w5.rowIs wb 45 up (fun p => .float .f64 (wt p)))
    (heq : ∀ i, i < n → (!M.down i) = true → EqAt M ni nn wt wtd i (pos (fun i => !M.down i) (lf M C) n i))
    (hvms : ∀ t, t < T → w5.rowIs (vb t) 22 (szF F t) (fun v => .int .u64 (dig nd D (Pl.offTo (fN F) t + v)))) (hvl : ∀ t, t < T → vb t < w.heap.size)
    (h1 : bb ≠ sp) (h2 : bb ≠ g) (h3 : nb ≠ sp ∧ wb ≠ sp) (h4 : nb ≠ g ∧ wb ≠ g) (h5 : w.heap.size ≤ g) (h6 : g ≠ sp) (h7 : ∀ t, t < T → vb t ≠ sp) (h8 : sp < w5.heap.size) :
    Clus (wr.setCell ⟨sp, 5, none⟩ v) sp n T (Pl.prodTo (fN F) T) up M F nd D wtd mb nb wb bb g cap vb lb ni nn wt := by
  subst hC
  subst ho
  refine ⟨hset, hR.tie.other (p := ⟨sp, 5, none⟩) h6 _, ?_, ?_, ?_, ?_, ?_, ?_⟩
  · intro t ht
    have := hvl t ht
    exact (hR.but.row (hvms t ht) (hvms t ht).lt (by omega)).setOther (a := ⟨sp, 5, none⟩) (h7 t ht) _
  · intro t ht
    obtain ⟨k1, k2⟩ := hR.live t (Nat.zero_le _) ht
    exact k2.setOther (a := ⟨sp, 5, none⟩) (by show lb t ≠ sp; omega) _
  · exact (hR.but.row hbds hbds.lt h2).setOther (a := ⟨sp, 5, none⟩) h1 _
  · exact (hR.but.row hnod hnod.lt h4.1).setOther (a := ⟨sp, 5, none⟩) h3.1 _
  · intro e
    exact (hR.but.row (hwts e) (hwts e).lt h4.2).setOther (a := ⟨sp, 5, none⟩) h3.2 _
  · intro i hi hd
    exact heq i hi (by simp [hd])

/-- What cluster leaves, and what it leaves alone. -/
def CluEnd (w w' : World) (sp n T up : Nat) (M : Mems) (F : Nat → Int) (nd : Nat) (D : Nat → Int) (wtd : Bool) (mb : Nat) (vb : Nat → Nat) : Prop :=
  ∃ nb wb bb g cap lb ni nn wt, Clus w' sp n T (Pl.prodTo (fN F) T) up M F nd D wtd mb nb wb bb g cap vb lb ni nn wt ∧ But sp w.heap.size w w'

theorem liveF_or (p pc : Nat → Bool) (vf d v : Nat) {n : Nat} : ∀ i, i < n → (if i = v then Value.int .u64 (bits .or .u64 (liveV (anyFrom pc vf d)) (liveV (pc (vf + d)))) else Value.int .u64 (liveF p (liveV (anyFrom pc vf d)) v i)) =
    Value.int .u64 (liveF p (liveV (anyFrom pc vf (d + 1))) v i) := by
  intro i hi
  rw [bits_or_live, ← anyFrom_snoc]
  exact liveF_store p _ _ v i hi

set_option maxRecDepth 100000 in
set_option maxHeartbeats 8000000 in
theorem cluster_true (sp n up t1 : Nat) (M : Mems) (F : Nat → Int) (nd : Nat) (D : Nat → Int) (wa : Option Addr) (wl wc mb nb tb : Nat) (vb : Nat → Nat) (w : World)
    (hn : n ≤ 4096) (hS : ShapeOk F (t1 + 1)) (hsl : ∀ i, i < n → 0 ≤ M.slot i ∧ M.slot i ≤ 9223372036854775807) (hup : up = Pl.cnt (fun i => !M.down i) n)
    (hw1 : ∃ wb, wa = some ⟨wb, 0, none⟩) (hw2 : wl = up)
    (hB : Built w sp n up (t1 + 1) M F nd D wa wl wc mb nb tb vb) :
    Calls Trym.prog 40 #[.pointer (some ⟨sp, 0, none⟩)] w fun e w' =>
      e = .returned (.tuple #[]) ∧ CluEnd w w' sp n (t1 + 1) up M F nd D true mb vb := by
  have hu4 : up ≤ 4096 := by have := Pl.cnt_le (fun i => !M.down i) n; omega
  have HUP := hid_mk hup
  clear hup
  obtain ⟨i0, hi, hz0, hz1, hz2⟩ := info_parts info79
  obtain ⟨Z29, hZ29⟩ := made29
  obtain ⟨Z65, hZ65⟩ := made65
  obtain ⟨Z23, hZ23⟩ := made23
  obtain ⟨Z41, hZ41⟩ := made41
  have hC0 : 1 ≤ Pl.prodTo (fN F) (t1 + 1) := Pl.prodTo_pos hS.one
  have hC1 := hS.prod
  have hT12 := hS.le
  have s5 : w.cell? ⟨sp, 5, none⟩ = some (.slice (some ⟨tb, 0, none⟩) (t1 + 1) (t1 + 1)) := hB.set.cell (i := 5) (by omega)
  have hspl := hB.set.lt
  have hmbl := hB.mem.lt
  go_enter Trym.func40, Trym.ntmps40
  go_wp2_with (at_builtin; refine wpList_append_own _ rfl _ _ 66 rfl w.heap.size 79 i0 _ 3 56 Trym.underlying66 hi hz0 hz1 hz2 rfl (by decide) _ _ _ rfl (World.ownsRow_nil _ _ _ _) ⟨tb, 0, none⟩ (t1 + 1) (t1 + 1) (tierNews F vb (t1 + 1)) rfl ?c0 ?c1 ?c2 ?c3 ?c4 ?c5 ?_)
  case c0 => exact tierNews_length F vb (t1 + 1)
  case c1 => exact tierNews_at hB.tie
  case c2 => exact tierNews_one F vb (t1 + 1)
  case c3 => unfold maxLen; omega
  case c4 => omega
  case c5 => exact Nat.le_refl _
  intro v' w1 hown hgrow _
  obtain ⟨g, cap, hv', hgB, hTR⟩ := tiers_copied (by omega) hown
  have hb1 : Below w.heap.size w w1 := (Below.refl _ _).grown hgrow (Nat.le_refl _) (fun k h => by cases h)
  rw [hv']
  clear hv' hown hgrow s5 hz0 hz1 hz2 hi
  have hgl := hTR.lt
  have vm1 := hTR.vm (t := t1) (by omega)
  have hms : w1.cell? ⟨sp, 0, none⟩ = some (.slice (some ⟨mb, 0, none⟩) n n) := (hb1.cell (p := ⟨sp, 0, none⟩) hspl).trans (hB.set.cell (i := 0) (by omega))
  have hszC : szF F t1 = Pl.prodTo (fN F) (t1 + 1) := rfl
  rw [hszC] at vm1
  generalize hCC : Pl.prodTo (fN F) (t1 + 1) = C at hC0 hC1 vm1
  have HCC := hid_mk hCC
  clear hCC hszC
  have hm29 : ∀ (W : World), (Instr.makeSlice 29 (.int .i64 ((C : Int) + 1)) (.int .i64 ((C : Int) + 1))).run Trym.prog W = .ok (.slice (some ⟨W.heap.size, 0, none⟩) (C + 1) (C + 1)) (W.alloc (.cells (Z29 (C + 1)) 3)) := fun W => hZ29.run (C + 1) W (by omega)
  have hms' : ∀ o, (w1.alloc o).cell? ⟨sp, 0, none⟩ = some (.slice (some ⟨mb, 0, none⟩) n n) := fun o => (Below.cell ((Below.refl w1.heap.size w1).alloc (Nat.le_refl _) o) (p := ⟨sp, 0, none⟩) (by show sp < w1.heap.size; have := hb1.size; omega)).trans hms
  have hL : ∀ i, i < n → lf M C i < C := fun i _ => lf_lt hC0
  have hst := (hZ29.row1 w1 (C + 1)).congr (g := fun l => .int .i64 (bnd (fun i => !M.down i) (lf M C) 0 l : Nat)) (fun i _ => by rw [bnd_zero]; rfl)
  go_wp2
  clear hm29 hms hms' vm1
  go_loopw [43] (fun i wr => ∃ k : Nat, k ≤ n ∧ i = .int .i64 k ∧ wr.rowIs w1.heap.size 3 (C + 1) (fun l => .int .i64 (bnd (fun i => !M.down i) (lf M C) k l : Nat)) ∧ Below w1.heap.size w1 wr) (fun i _ => n - (intOf i).toNat)
  case atStart => exact ⟨0, Nat.zero_le _, rfl, hst, (Below.refl _ _).alloc (Nat.le_refl _) _⟩
  case round =>
    obtain ⟨k, hk, rfl, hrow, hb2⟩ := hrel
    clear hst
    by_cases hlt : k < n
    · obtain ⟨m0, m1, m2, m3, m4⟩ := rowIs_cell5 (kept_row (kept_row hB.mem hb1) hb2) hlt
      have hmw : mb < wr.heap.size := (kept_row (kept_row hB.mem hb1) hb2).lt
      obtain ⟨hs0, hs1⟩ := hsl k hlt
      have hm := lf_eq (M := M) (i := k) hC0
      have hlC := hL k hlt
      have hbl := bnd_le (U := fun i => !M.down i) (L := lf M C) (k := k) (l := lf M C k + 1)
      cases hd : M.down k with
      | true =>
        rw [hd] at m4
        have HR : Hid (∀ o, (wr.alloc o).rowIs w1.heap.size 3 (C + 1) (fun l => .int .i64 (bnd (fun i => !M.down i) (lf M C) (k + 1) l : Nat))) := fun o => (hrow.alloc o).congr (fun l _ => by rw [bnd_skip (by simp [hd])])
        have HB := hid_mk hb2
        have hsw := hb2.size
        clear hd hm hrow hb2
        go_wp2
        go_roundw
        case rel => exact ⟨k + 1, by omega, by go_num, HR.out _, HB.out.alloc hsw _⟩
        case measure => simp [intOf]; omega
      | false =>
        rw [hd] at m4
        have HR : Hid (∀ o, ((wr.alloc o).setCell ⟨w1.heap.size, lf M C k + 1, none⟩ (.int .i64 ((bnd (fun i => !M.down i) (lf M C) k (lf M C k + 1) : Nat) + 1))).rowIs w1.heap.size 3 (C + 1) (fun l => .int .i64 (bnd (fun i => !M.down i) (lf M C) (k + 1) l : Nat))) :=
          fun o => ((hrow.alloc o).set _ _).congr (fun l _ => bnd_stored (by simp [hd]) l)
        have e0 := fun o => (hrow.alloc o).cell (i := lf M C k + 1) (by omega)
        have f0 := fun o => (hrow.alloc o).frozen (lf M C k + 1)
        have HB := hid_mk hb2
        have hsw := hb2.size
        generalize bnd (fun i => !M.down i) (lf M C) k (lf M C k + 1) = bv at hbl e0 HR
        generalize lf M C k = l at hm hlC e0 f0 HR
        clear hd hrow hb2
        go_wp2
        go_roundw
        case rel => exact ⟨k + 1, by omega, by go_num, HR.out _, (HB.out.alloc hsw _).setCell (Nat.le_refl _) _⟩
        case measure => simp [intOf]; omega
    · obtain rfl : n = k := by omega
      clear hlt hk
      have hst := hrow.congr (g := fun l => .int .i64 (bsum (fun i => !M.down i) (lf M C) n 1 l : Nat)) (fun l _ => by rw [bsum_one])
      go_wp2
      go_loopw [8] (fun i wr => ∃ l : Nat, 1 ≤ l ∧ l ≤ C + 1 ∧ i = .int .i64 l ∧ wr.rowIs w1.heap.size 3 (C + 1) (fun j => .int .i64 (bsum (fun i => !M.down i) (lf M C) n l j : Nat)) ∧ Below w1.heap.size w1 wr) (fun i _ => C + 1 - (intOf i).toNat)
      case atStart => exact ⟨1, Nat.le_refl _, by omega, rfl, hst, hb2⟩
      case round =>
        obtain ⟨l, hl1, hl2, rfl, hrow3, hb3⟩ := hrel
        clear hst hrow hb2
        by_cases hlt : l ≤ C
        · have e0 := hrow3.cell (i := l) (by omega)
          have e1 := hrow3.cell (i := l - 1) (by omega)
          have f0 := hrow3.frozen l
          have b0 := bsum_le (U := fun i => !M.down i) hL (l := l) (j := l) (by omega)
          have b1 := bsum_le (U := fun i => !M.down i) hL (l := l) (j := l - 1) (by omega)
          have HR := hid_mk ((hrow3.set l (.int .i64 ((bsum (fun i => !M.down i) (lf M C) n l l : Nat) + (bsum (fun i => !M.down i) (lf M C) n l (l - 1) : Nat) : Int))).congr (fun j _ => bsum_stored hl1 j))
          have HB := hid_mk (hb3.setCell (p := ⟨w1.heap.size, l, none⟩) (Nat.le_refl _) (.int .i64 ((bsum (fun i => !M.down i) (lf M C) n l l : Nat) + (bsum (fun i => !M.down i) (lf M C) n l (l - 1) : Nat) : Int)))
          generalize bsum (fun i => !M.down i) (lf M C) n l l = x0 at e0 b0 HR HB
          generalize bsum (fun i => !M.down i) (lf M C) n l (l - 1) = x1 at e1 b1 HR HB
          clear hrow3 hb3
          go_wp2
          go_region
          all_goals go_wp2
          go_roundw
          case rel => exact ⟨l + 1, by omega, by omega, by go_num, HR.out.drew, HB.out.drew⟩
          case measure => simp [intOf]; omega
        · obtain rfl : l = C + 1 := by omega
          obtain ⟨w2, rfl⟩ : ∃ w2 : World, w2 = wr := ⟨_, rfl⟩
          have hbds := hrow3.congr (g := fun l => .int .i64 (start (fun i => !M.down i) (lf M C) n l : Nat)) (fun l h => by rw [bsum_end (by omega)])
          clear hlt hl1 hl2 hrow3
          have hw12 := hbds.lt
          have hb2 : Below w.heap.size w w2 := hb1.trans (hb3.mono hb1.size)
          have hm29 := fun (W : World) => hZ29.run C W (by omega)
          have hsp2 : sp < w2.heap.size := Nat.lt_of_lt_of_le hspl hb2.size
          obtain ⟨w3, hcp, hnx, hb3'⟩ := run_copy_start (U := fun i => !M.down i) (L := lf M C) (n := n) (w2.alloc (.cells (Z29 C) 3)) w1.heap.size w2.heap.size C (hbds.alloc _) ⟨_, heap_alloc_new _ _, (hZ29.len C).trans (Nat.mul_one C)⟩ w2 w2.heap.size ((Below.refl _ _).alloc (Nat.le_refl _) _) (Nat.le_refl _)
          have hn3 : ∀ j, j < 7 → w3.cell? ⟨sp, j, none⟩ = some (setC (.slice (some ⟨mb, 0, none⟩) n n) (.slice (some ⟨nb, 0, none⟩) up up) (.slice wa wl wc) true (.slice (some ⟨tb, 0, none⟩) (t1 + 1) (t1 + 1)) (.slice none 0 0) j) :=
            fun j hj => (hb3'.cell (p := ⟨sp, j, none⟩) hsp2).trans ((hb2.cell (p := ⟨sp, j, none⟩) hspl).trans (hB.set.cell hj))
          have hs3 : w3.rowIs sp 68 7 (setC (.slice (some ⟨mb, 0, none⟩) n n) (.slice (some ⟨nb, 0, none⟩) up up) (.slice wa wl wc) true (.slice (some ⟨tb, 0, none⟩) (t1 + 1) (t1 + 1)) (.slice none 0 0)) := old_row (old_row hB.set hb2 hspl) hb3' hsp2
          have g1 : w3.cell? ⟨sp, 1, none⟩ = some (.slice (some ⟨nb, 0, none⟩) up up) := hs3.cell (i := 1) (by omega)
          obtain ⟨wb0, rfl⟩ := hw1
          obtain rfl : up = wl := hw2.symm
          have g2 : ∀ o, (w3.alloc o).cell? ⟨sp, 2, none⟩ = some (.slice (some ⟨wb0, 0, none⟩) up wc) := fun o => (hs3.alloc o).cell (i := 2) (by omega)
          have g0 : ∀ o o', ((w3.alloc o).alloc o').cell? ⟨sp, 0, none⟩ = some (.slice (some ⟨mb, 0, none⟩) n n) := fun o o' => ((hs3.alloc o).alloc o').cell (i := 0) (by omega)
          have hm41 := fun (W : World) => hZ41.run up W (by omega)
          have hm65 := fun (W : World) => hZ65.run up W (by omega)
          have hw23 := hnx.lt
          clear hn3
          go_wp2
          have hstart := sorted_startT w3 w2.heap.size C up n (M := M) (U := fun i => !M.down i) (L := lf M C) hZ65 hZ41 hnx
          have hb3s := hb3'.size
          clear hm29 hm65 hm41 hcp g0 g1 g2 hZ29 hZ65 hZ41
          go_loopw [104] (fun i wr => ∃ (k : Nat) (ni : Nat → ByteArray) (nn : Nat → Int) (wt : Nat → Nat), k ≤ n ∧ i = .int .i64 k ∧ Sorted wr w2.heap.size w3.heap.size (w3.heap.size + 1) C up n k true M (fun i => !M.down i) (lf M C) ni nn wt ∧ Below w2.heap.size w2 wr) (fun i _ => n - (intOf i).toNat)
          case atStart => exact ⟨0, _, _, _, Nat.zero_le _, rfl, hstart, (hb3'.alloc hb3s _).alloc (by simp; omega) _⟩
          case round =>
            obtain ⟨k, ni, nn, wt, hk, rfl, hso, hb4⟩ := hrel
            clear hstart
            by_cases hlt : k < n
            · have hmem4 : wr.rowIs mb 77 (n * 5) (strF 5 (memG M) memZ n) := old_row (old_row hB.mem hb2 hmbl) hb4 (Nat.lt_of_lt_of_le hmbl hb2.size)
              obtain ⟨m0, m1, m2, m3, m4⟩ := rowIs_cell5 hmem4 hlt
              have hmw : mb < wr.heap.size := hmem4.lt
              obtain ⟨hs0, hs1⟩ := hsl k hlt
              have hm := lf_eq (M := M) (i := k) hC0
              have hlC := hL k hlt
              have hNBw := hso.nod.lt
              have hNXw := hso.nx.lt
              have hWBw := (hso.wts rfl).lt
              have hsw := hb4.size
              cases hd : M.down k with
              | true =>
                rw [hd] at m4
                have HR : Hid (∀ o, Sorted (wr.alloc o) w2.heap.size w3.heap.size (w3.heap.size + 1) C up n (k + 1) true M (fun i => !M.down i) (lf M C) ni nn wt) := fun o => hso.skip (by simp [hd]) o
                have HB : Hid (∀ o, Below w2.heap.size w2 (wr.alloc o)) := fun o => hb4.alloc hsw o
                clear hd hm hmem4 hso hb4 hbds hTR hs3 hb3 hb3' hb1 hb2 hnx
                go_wp2
                go_roundw
                case rel => exact ⟨k + 1, ni, nn, wt, by omega, by go_num, HR.out _, HB.out _⟩
                case measure => simp [intOf]; omega
              | false =>
                rw [hd] at m4
                have hU : (fun i => !M.down i) k = true := by simp [hd]
                have hpu := pos_up (U := fun i => !M.down i) hL hlt hU
                rw [← HUP.out] at hpu
                have e0 : wr.cell? ⟨w2.heap.size, lf M C k, none⟩ = some (.int .i64 (pos (fun i => !M.down i) (lf M C) n k : Nat)) := hso.nx.cell hlC
                have e1 := (node_cell hso.nod hpu).1
                have e2 := (node_cell hso.nod hpu).2
                have f0 := hso.nx.frozen (lf M C k)
                have f1 := hso.nod.frozen (pos (fun i => !M.down i) (lf M C) n k * 2)
                have f2 := hso.nod.frozen (pos (fun i => !M.down i) (lf M C) n k * 2 + 1)
                have e3 := (hso.wts rfl).cell hpu
                have f3 := (hso.wts rfl).frozen (pos (fun i => !M.down i) (lf M C) n k)
                have HR := hid_mk (fun o => hso.stepT hlt hU hw23 o)
                have HB := hid_mk hb4
                generalize pos (fun i => !M.down i) (lf M C) n k = p at hpu e0 e1 e2 f1 f2 e3 f3 HR
                generalize lf M C k = l at hm hlC e0 f0 HR
                clear hd hU hmem4 hso hb4 hbds hTR hs3 hb3 hb3' hb1 hb2 hnx
                go_wp2
                go_region
                all_goals go_wp2
                go_region
                all_goals go_wp2
                go_roundw
                case rel =>
                  refine ⟨k + 1, _, _, _, by omega, by go_num, (HR.out _).drew.drew, ?_⟩
                  exact ((((((HB.out.setCell (by show w2.heap.size ≤ w3.heap.size; omega) _).setCell (by show w2.heap.size ≤ w3.heap.size; omega) _).setCell (by show w2.heap.size ≤ w3.heap.size + 1; omega) _).setCell (Nat.le_refl _) _).alloc (by simp [World.setCell]; omega) _).drew).drew
                case measure => simp [intOf]; omega
            · obtain rfl : n = k := by omega
              clear hlt hk
              obtain ⟨w4, rfl⟩ : ∃ w4 : World, w4 = wr := ⟨_, rfl⟩
              have hs4 : w4.rowIs sp 68 7 _ := old_row (old_row hB.set hb2 hspl) hb4 hsp2
              have g1 : w4.cell? ⟨sp, 1, none⟩ = some (.slice (some ⟨nb, 0, none⟩) up up) := hs4.cell (i := 1) (by omega)
              have g2 := hs4.cell (i := 2) (by omega)
              have g6 : w4.cell? ⟨sp, 6, none⟩ = some (.slice none 0 0) := hs4.cell (i := 6) (by omega)
              have f1 := hs4.frozen 1
              have f2 := hs4.frozen 2
              have f6 := hs4.frozen 6
              have HSO := hid_mk hso
              have HBD := hid_mk hbds
              have HS4 := hid_mk hs4
              have HTR := hid_mk hTR
              have HB := hid_mk hB
              have HB2 := hid_mk hb2
              have HB3 := hid_mk hb3
              have HB4 := hid_mk hb4
              have hsw4 := hb4.size
              have hg1 : g ≠ w1.heap.size := by omega
              clear hso hbds hs4 hTR hB hb1 hb2 hb3 hb4 hs3 hb3' hnx
              go_wp2
              obtain ⟨w5, hw5⟩ : ∃ w5 : World, w5 = (((w4.setCell ⟨sp, 1, none⟩ (.slice (some ⟨w3.heap.size, 0, none⟩) up up)).setCell ⟨sp, 2, none⟩ (.slice (some ⟨w3.heap.size + 1, 0, none⟩) up up)).setCell ⟨sp, 6, none⟩ (.slice (some ⟨w1.heap.size, 0, none⟩) (C + 1) (C + 1))) := ⟨_, rfl⟩
              rw [← hw5]
              have S5 : w5.rowIs sp 68 7 (setC (.slice (some ⟨mb, 0, none⟩) n n) (.slice (some ⟨w3.heap.size, 0, none⟩) up up) (.slice (some ⟨w3.heap.size + 1, 0, none⟩) up up) true (.slice (some ⟨tb, 0, none⟩) (t1 + 1) (t1 + 1)) (.slice (some ⟨w1.heap.size, 0, none⟩) (C + 1) (C + 1))) := by
                rw [hw5]
                exact set3_row HS4.out _ _ _
              have hblk : ∀ k, k ≠ sp → w5.heap[k]? = w4.heap[k]? := fun k hk => by
                rw [hw5]
                exact set3_block hk _ _ _
              have hsz5 : w5.heap.size = w4.heap.size := by rw [hw5]; exact set3_size _ _ _
              have T5 : TierRow w5 g cap (t1 + 1) F vb (fun _ => 0) (t1 + 1) := HTR.out.of_block ((hblk g (by omega)).trans ((HB4.out.block g (by omega)).trans (HB3.out.block g hgl)))
              have bds5 := HBD.out.of_block ((hblk w1.heap.size (by omega)).trans (HB4.out.block w1.heap.size hw12))
              have nod5 := HSO.out.nod.of_block (hblk w3.heap.size (by omega))
              have wts5 := (HSO.out.wts rfl).of_block (hblk (w3.heap.size + 1) (by omega))
              have W5 := hid_mk wts5
              clear wts5
              have eq5 := HSO.out.eq
              have vms5 : ∀ t, t < t1 + 1 → w5.rowIs (vb t) 22 (szF F t) (fun v => .int .u64 (dig nd D (Pl.offTo (fN F) t + v))) := fun t ht =>
                (HB.out.vms t ht).of_block ((hblk (vb t) (HB.out.vbs t ht)).trans ((HB4.out.block _ (Nat.lt_of_lt_of_le (HB.out.vms t ht).lt HB2.out.size)).trans (HB2.out.block _ (HB.out.vms t ht).lt)))
              have HVS := hid_mk HB.out.vbs
              have hvbl : ∀ t, t < t1 + 1 → vb t < w.heap.size := fun t ht => (HB.out.vms t ht).lt
              have but5 : But sp w.heap.size w w5 := by
                rw [hw5]
                exact set3_but (But.of_below (HB2.out.trans (HB4.out.mono HB2.out.size))) _ _ _
              clear hw5 HS4 HTR HBD HSO HB HB2 HB3 HB4 hblk g1 g2 g6 f1 f2 f6
              have H5 := hid_mk (And.intro S5 (And.intro bds5 (And.intro nod5 (And.intro eq5 (And.intro vms5 (And.intro but5 hvbl))))))
              have hsp5 := S5.lt
              have hbb5 := bds5.lt
              clear S5 bds5 nod5 eq5 vms5 but5 hvbl
              have hg5 : g < w5.heap.size := T5.lt
              have hLR5 : LR w5 w5 g cap (t1 + 1) F vb (fun _ => 0) (occB (fun i => !M.down i) (lf M C) n) (t1 + 1) := ⟨T5, fun t h1 h2 => by omega, But.refl _ _ _, hg5⟩
              clear T5
              generalize hocc : occB (fun i => !M.down i) (lf M C) n = occ at hLR5
              have HOCC := hid_mk hocc
              clear hocc
              go_loopw [15] (fun i wr => ∃ (m : Nat) (lb : Nat → Nat), m ≤ t1 + 1 ∧ i = .int .i64 ((m : Int) - 1) ∧ LR w5 wr g cap (t1 + 1) F vb lb occ m) (fun i _ => (intOf i + 1).toNat)
              case atStart => exact ⟨t1 + 1, _, Nat.le_refl _, by go_num, hLR5⟩
              case round =>
                obtain ⟨m, lb, hm, hi6, hR6⟩ := hrel
                clear hLR5
                rcases m with _ | t
                · have hi' : u15 = .int .i64 (-1) := by rw [hi6]; rfl
                  clear hi6
                  subst hi'
                  have S6 := hR6.but.row H5.out.1 hsp5 (by omega)
                  have c5 := S6.cell (i := 5) (by omega)
                  have f5 := S6.frozen 5
                  have HS6 := hid_mk ((S6.set 5 (.slice (some ⟨g, 0, none⟩) (t1 + 1) cap)).congr set_field5)
                  have HR6 := hid_mk hR6
                  clear S6 hR6
                  go_wp2
                  go_end0
                  refine ⟨rfl, w3.heap.size, w3.heap.size + 1, w1.heap.size, g, cap, lb, ni, nn, wt, clus_done HCC.out HOCC.out HS6.out HR6.out H5.out.2.1 H5.out.2.2.1 (fun _ => W5.out) H5.out.2.2.2.1 H5.out.2.2.2.2.1 H5.out.2.2.2.2.2.2 (by omega) (by omega) (by omega) (by omega) hgB (by omega) HVS.out hsp5, ?_⟩
                  exact clus_but H5.out.2.2.2.2.2.1 HR6.out.but hgB
                · have hi' : u15 = .int .i64 (t : Int) := by rw [hi6]; congr 1; omega
                  clear hi6
                  subst hi'
                  have hszb : szF F t ≤ 4096 := Nat.le_trans (Pl.prodTo_le hm hS.one) hS.prod
                  have v0 := hR6.tie.vm (t := t) (by omega)
                  have hm23 := fun (W : World) => hZ23.run (szF F t) W (by omega)
                  have hst := (hZ23.row1 wr (szF F t)).congr (g := fun v => .int .u64 (if v < 0 then liveV (lvB occ (fN F) (t1 + 1) t v) else 0)) (fun i _ => by simp)
                  have hb6s := hR6.but.size
                  have hgw : g < wr.heap.size := hR6.tie.lt
                  obtain ⟨w6, rfl⟩ : ∃ w6 : World, w6 = wr := ⟨_, rfl⟩
                  by_cases hlast : t = t1
                  · subst hlast
                    go_wp2
                    clear hm23
                    go_loopw [165] (fun i wx => ∃ v : Nat, v ≤ szF F t ∧ i = .int .i64 v ∧ wx.rowIs w6.heap.size 22 (szF F t) (fun i => .int .u64 (if i < v then liveV (lvB occ (fN F) (t + 1) t i) else 0)) ∧ Below w6.heap.size w6 wx) (fun i _ => szF F t - (intOf i).toNat)
                    case atStart => exact ⟨0, Nat.zero_le _, rfl, hst, (Below.refl _ _).alloc (Nat.le_refl _) _⟩
                    case round =>
                      obtain ⟨v, hv, rfl, hrow, hbx⟩ := hrel
                      clear hst
                      by_cases hlv : v < szF F t
                      · have hbd : wr.rowIs w1.heap.size 3 (C + 1) _ := (hR6.but.row H5.out.2.1 hbb5 hg1.symm).of_block (hbx.block _ (by omega))
                        have hvC : v < C := by rw [← HCC.out]; exact hlv
                        have e0 := hbd.cell (i := v) (by omega)
                        have e1 := hbd.cell (i := v + 1) (by omega)
                        have b0 := start_bound (U := fun i => !M.down i) hL (l := v) (by omega)
                        have b1 := start_bound (U := fun i => !M.down i) hL (l := v + 1) (by omega)
                        have d0 := hrow.cell hlv
                        have f0 := hrow.frozen v
                        have hsl5 := start_live (U := fun i => !M.down i) (L := lf M C) (n := n) (v := v)
                        rw [HOCC.out] at hsl5
                        have HL := hid_mk (lvB_last occ (fN F) t v)
                        by_cases hgt : start (fun i => !M.down i) (lf M C) n v < start (fun i => !M.down i) (lf M C) n (v + 1)
                        · have HO := hid_mk (hsl5.1 hgt)
                          have HR := hid_mk ((hrow.set v (.int .u64 18446744073709551615)).congr (live_yes (p := lvB occ (fN F) (t + 1) t) (HL.out.trans HO.out)))
                          have HBX := hid_mk (hbx.setCell (p := ⟨w6.heap.size, v, none⟩) (Nat.le_refl _) (.int .u64 18446744073709551615))
                          generalize start (fun i => !M.down i) (lf M C) n v = x0 at e0 b0 hgt
                          generalize start (fun i => !M.down i) (lf M C) n (v + 1) = x1 at e1 b1 hgt
                          generalize (if v < v then liveV (lvB occ (fN F) (t + 1) t v) else 0) = q at d0
                          clear hsl5 hrow hbx hbd hR6 hL hsl hS hZ23
                          go_wp2
                          go_region
                          all_goals go_wp2
                          go_roundw
                          case rel => exact ⟨v + 1, by omega, by go_num, HR.out.drew, HBX.out.drew⟩
                          case measure => simp [intOf]; omega
                        · have HO : Hid (occ v = false) := by
                            show occ v = false
                            cases ho : occ v
                            · rfl
                            · exact absurd (hsl5.2 ho) hgt
                          have HR := hid_mk (hrow.congr (live_no (p := lvB occ (fN F) (t + 1) t) (HL.out.trans HO.out)))
                          have HBX := hid_mk hbx
                          generalize start (fun i => !M.down i) (lf M C) n v = x0 at e0 b0 hgt
                          generalize start (fun i => !M.down i) (lf M C) n (v + 1) = x1 at e1 b1 hgt
                          clear hsl5 hrow hbx hbd hR6 hL hsl hS hZ23 d0 f0
                          go_wp2
                          go_region
                          all_goals go_wp2
                          go_roundw
                          case rel => exact ⟨v + 1, by omega, by go_num, HR.out.drew, HBX.out.drew⟩
                          case measure => simp [intOf]; omega
                      · have hr := hrow.congr (g := fun v => .int .u64 (liveV (lvB occ (fN F) (t + 1) t v))) (fun i h => by rw [if_pos (by omega)])
                        have hTx := hR6.tie.of_block (hbx.block g hgw)
                        have l0 := hTx.liv (t := t) (by omega)
                        have l1 := hTx.fro (t * 3 + 2)
                        have HR := hid_mk (hR6.step hbx hr)
                        generalize liveS lb (szF F) (t + 1) t = q at l0
                        clear hr hTx hrow hbx hR6 hL hsl hS hZ23
                        go_wp2
                        go_roundw
                        case rel => exact ⟨t, _, by omega, by go_num, HR.out⟩
                        case measure => simp [intOf]
                  · have hlt : t + 1 < t1 + 1 := by omega
                    have hne : ((t : Int) == (t1 : Int)) = false := by simp; omega
                    have hfx := hS.eq (t + 1) hlt
                    have hx1 := hS.one (t + 1) hlt
                    have hszs : szF F (t + 1) = szF F t * fN F (t + 1) := rfl
                    have hszb' : szF F (t + 1) ≤ 4096 := Nat.le_trans (Pl.prodTo_le (show t + 1 + 1 ≤ t1 + 1 by omega) hS.one) hS.prod
                    have hpp : 1 ≤ per (fN F) (t1 + 1) (t + 1) := Pl.prodFrom_pos (fun i hi => hS.one i (by omega))
                    obtain ⟨k1, k2⟩ := hR6.live (t + 1) (Nat.le_refl _) hlt
                    go_wp2
                    clear hm23
                    go_loopw [165] (fun i wx => ∃ v : Nat, v ≤ szF F t ∧ i = .int .i64 v ∧ wx.rowIs w6.heap.size 22 (szF F t) (fun i => .int .u64 (if i < v then liveV (lvB occ (fN F) (t1 + 1) t i) else 0)) ∧ Below w6.heap.size w6 wx) (fun i _ => szF F t - (intOf i).toNat)
                    case atStart => exact ⟨0, Nat.zero_le _, rfl, hst, (Below.refl _ _).alloc (Nat.le_refl _) _⟩
                    case round =>
                      obtain ⟨v, hv, rfl, hrow, hbx⟩ := hrel
                      clear hst
                      by_cases hlv : v < szF F t
                      · have hTx := hR6.tie.of_block (hbx.block g hgw)
                        have c0 := hTx.fan (t := t + 1) hlt
                        have c2 := hTx.liv (t := t + 1) hlt
                        rw [show liveS lb (szF F) (t + 1) (t + 1) = .slice (some ⟨lb (t + 1), 0, none⟩) (szF F (t + 1)) (szF F (t + 1)) from if_pos (Nat.le_refl _)] at c2
                        rw [hfx] at c0
                        have kx := old_row k2 hbx k2.lt
                        have k2' := k2
                        have HLV := hid_mk (lvB_step occ (fN F) hlt hpp v)
                        have hvx : v * fN F (t + 1) + fN F (t + 1) ≤ szF F (t + 1) := by
                          rw [hszs, ← Nat.succ_mul]; exact Nat.mul_le_mul_right _ hlv
                        have hrow0 := hrow.congr (liveF_start (lvB occ (fN F) (t1 + 1) t) v)
                        clear hrow hTx
                        obtain ⟨vf, hvf⟩ : ∃ vf, vf = v * fN F (t + 1) := ⟨_, rfl⟩
                        have hvfI : (v : Int) * (fN F (t + 1) : Int) = (vf : Int) := by rw [hvf]; simp
                        rw [← hvf] at hvx HLV
                        clear hvf
                        generalize fN F (t + 1) = x at c0 hx1 hvfI hvx HLV
                        generalize szF F (t + 1) = sx at c2 hszb' hvx kx k2'
                        go_wp2
                        go_loopw [206] (fun i wx => ∃ d : Nat, d ≤ x ∧ i = .int .i64 d ∧ wx.rowIs w6.heap.size 22 (szF F t) (fun i => .int .u64 (liveF (lvB occ (fN F) (t1 + 1) t) (liveV (anyFrom (lvB occ (fN F) (t1 + 1) (t + 1)) vf d)) v i)) ∧ Below w6.heap.size w6 wx) (fun i _ => x - (intOf i).toNat)
                        case atStart => exact ⟨0, Nat.zero_le _, rfl, hrow0, hbx⟩
                        case round =>
                          obtain ⟨d, hd, rfl, hrw, hby⟩ := hrel
                          clear hrow0
                          by_cases hld : d < x
                          · have e0 := (old_row k2' hby k2'.lt).cell (i := vf + d) (by omega)
                            have e1 := hrw.cell hlv
                            simp only [liveF_at] at e1
                            have f1 := hrw.frozen v
                            have HR := hid_mk ((hrw.set v (.int .u64 (bits .or .u64 (liveV (anyFrom (lvB occ (fN F) (t1 + 1) (t + 1)) vf d)) (liveV (lvB occ (fN F) (t1 + 1) (t + 1) (vf + d)))))).congr (liveF_or (lvB occ (fN F) (t1 + 1) t) (lvB occ (fN F) (t1 + 1) (t + 1)) vf d v))
                            have HBY := hid_mk (hby.setCell (p := ⟨w6.heap.size, v, none⟩) (Nat.le_refl _) (.int .u64 (bits .or .u64 (liveV (anyFrom (lvB occ (fN F) (t1 + 1) (t + 1)) vf d)) (liveV (lvB occ (fN F) (t1 + 1) (t + 1) (vf + d))))))
                            generalize liveV (anyFrom (lvB occ (fN F) (t1 + 1) (t + 1)) vf d) = q0 at e1 HR HBY
                            generalize liveV (lvB occ (fN F) (t1 + 1) (t + 1) (vf + d)) = q1 at e0 HR HBY
                            clear hrw hby hbx hR6 hL hsl hS hZ23 k2 kx c2
                            go_wp2
                            go_roundw
                            case rel => exact ⟨d + 1, by omega, by go_num, HR.out, HBY.out⟩
                            case measure => simp [intOf]; omega
                          · obtain rfl : x = d := by omega
                            have HR := hid_mk ((hrw.congr (fun i _ => by rw [← HLV.out])).congr (liveF_end (lvB occ (fN F) (t1 + 1) t) v))
                            have HBY := hid_mk hby
                            clear hrw hby hbx hR6 hL hsl hS hZ23 k2 kx c2 hld hd
                            go_wp2
                            go_roundw
                            case rel => exact ⟨v + 1, by omega, by go_num, HR.out, HBY.out⟩
                            case measure => simp [intOf]; omega
                      · have hr := hrow.congr (g := fun v => .int .u64 (liveV (lvB occ (fN F) (t1 + 1) t v))) (fun i h => by rw [if_pos (by omega)])
                        have hTx := hR6.tie.of_block (hbx.block g hgw)
                        have l0 := hTx.liv (t := t) (by omega)
                        have l1 := hTx.fro (t * 3 + 2)
                        have HR := hid_mk (hR6.step hbx hr)
                        generalize liveS lb (szF F) (t + 1) t = q at l0
                        clear hr hTx hrow hbx hR6 hL hsl hS hZ23 hszs k1 k2 hfx
                        go_wp2
                        go_roundw
                        case rel => exact ⟨t, _, by omega, by go_num, HR.out⟩
                        case measure => simp [intOf]
set_option maxRecDepth 100000 in
set_option maxHeartbeats 8000000 in
theorem cluster_false (sp n up t1 : Nat) (M : Mems) (F : Nat → Int) (nd : Nat) (D : Nat → Int) (wa : Option Addr) (wl wc mb nb tb : Nat) (vb : Nat → Nat) (w : World)
    (hn : n ≤ 4096) (hS : ShapeOk F (t1 + 1)) (hsl : ∀ i, i < n → 0 ≤ M.slot i ∧ M.slot i ≤ 9223372036854775807) (hup : up = Pl.cnt (fun i => !M.down i) n)
    (hw1 : wa = none) (hw2 : wl = 0) (hw3 : wc = 0)
    (hB : Built w sp n up (t1 + 1) M F nd D wa wl wc mb nb tb vb) :
    Calls Trym.prog 40 #[.pointer (some ⟨sp, 0, none⟩)] w fun e w' =>
      e = .returned (.tuple #[]) ∧ CluEnd w w' sp n (t1 + 1) up M F nd D false mb vb := by
  have hu4 : up ≤ 4096 := by have := Pl.cnt_le (fun i => !M.down i) n; omega
  have HUP := hid_mk hup
  clear hup
  obtain ⟨i0, hi, hz0, hz1, hz2⟩ := info_parts info79
  obtain ⟨Z29, hZ29⟩ := made29
  obtain ⟨Z65, hZ65⟩ := made65
  obtain ⟨Z23, hZ23⟩ := made23
  
  have hC0 : 1 ≤ Pl.prodTo (fN F) (t1 + 1) := Pl.prodTo_pos hS.one
  have hC1 := hS.prod
  have hT12 := hS.le
  have s5 : w.cell? ⟨sp, 5, none⟩ = some (.slice (some ⟨tb, 0, none⟩) (t1 + 1) (t1 + 1)) := hB.set.cell (i := 5) (by omega)
  have hspl := hB.set.lt
  have hmbl := hB.mem.lt
  go_enter Trym.func40, Trym.ntmps40
  go_wp2_with (at_builtin; refine wpList_append_own _ rfl _ _ 66 rfl w.heap.size 79 i0 _ 3 56 Trym.underlying66 hi hz0 hz1 hz2 rfl (by decide) _ _ _ rfl (World.ownsRow_nil _ _ _ _) ⟨tb, 0, none⟩ (t1 + 1) (t1 + 1) (tierNews F vb (t1 + 1)) rfl ?c0 ?c1 ?c2 ?c3 ?c4 ?c5 ?_)
  case c0 => exact tierNews_length F vb (t1 + 1)
  case c1 => exact tierNews_at hB.tie
  case c2 => exact tierNews_one F vb (t1 + 1)
  case c3 => unfold maxLen; omega
  case c4 => omega
  case c5 => exact Nat.le_refl _
  intro v' w1 hown hgrow _
  obtain ⟨g, cap, hv', hgB, hTR⟩ := tiers_copied (by omega) hown
  have hb1 : Below w.heap.size w w1 := (Below.refl _ _).grown hgrow (Nat.le_refl _) (fun k h => by cases h)
  rw [hv']
  clear hv' hown hgrow s5 hz0 hz1 hz2 hi
  have hgl := hTR.lt
  have vm1 := hTR.vm (t := t1) (by omega)
  have hms : w1.cell? ⟨sp, 0, none⟩ = some (.slice (some ⟨mb, 0, none⟩) n n) := (hb1.cell (p := ⟨sp, 0, none⟩) hspl).trans (hB.set.cell (i := 0) (by omega))
  have hszC : szF F t1 = Pl.prodTo (fN F) (t1 + 1) := rfl
  rw [hszC] at vm1
  generalize hCC : Pl.prodTo (fN F) (t1 + 1) = C at hC0 hC1 vm1
  have HCC := hid_mk hCC
  clear hCC hszC
  have hm29 : ∀ (W : World), (Instr.makeSlice 29 (.int .i64 ((C : Int) + 1)) (.int .i64 ((C : Int) + 1))).run Trym.prog W = .ok (.slice (some ⟨W.heap.size, 0, none⟩) (C + 1) (C + 1)) (W.alloc (.cells (Z29 (C + 1)) 3)) := fun W => hZ29.run (C + 1) W (by omega)
  have hms' : ∀ o, (w1.alloc o).cell? ⟨sp, 0, none⟩ = some (.slice (some ⟨mb, 0, none⟩) n n) := fun o => (Below.cell ((Below.refl w1.heap.size w1).alloc (Nat.le_refl _) o) (p := ⟨sp, 0, none⟩) (by show sp < w1.heap.size; have := hb1.size; omega)).trans hms
  have hL : ∀ i, i < n → lf M C i < C := fun i _ => lf_lt hC0
  have hst := (hZ29.row1 w1 (C + 1)).congr (g := fun l => .int .i64 (bnd (fun i => !M.down i) (lf M C) 0 l : Nat)) (fun i _ => by rw [bnd_zero]; rfl)
  go_wp2
  clear hm29 hms hms' vm1
  go_loopw [43] (fun i wr => ∃ k : Nat, k ≤ n ∧ i = .int .i64 k ∧ wr.rowIs w1.heap.size 3 (C + 1) (fun l => .int .i64 (bnd (fun i => !M.down i) (lf M C) k l : Nat)) ∧ Below w1.heap.size w1 wr) (fun i _ => n - (intOf i).toNat)
  case atStart => exact ⟨0, Nat.zero_le _, rfl, hst, (Below.refl _ _).alloc (Nat.le_refl _) _⟩
  case round =>
    obtain ⟨k, hk, rfl, hrow, hb2⟩ := hrel
    clear hst
    by_cases hlt : k < n
    · obtain ⟨m0, m1, m2, m3, m4⟩ := rowIs_cell5 (kept_row (kept_row hB.mem hb1) hb2) hlt
      have hmw : mb < wr.heap.size := (kept_row (kept_row hB.mem hb1) hb2).lt
      obtain ⟨hs0, hs1⟩ := hsl k hlt
      have hm := lf_eq (M := M) (i := k) hC0
      have hlC := hL k hlt
      have hbl := bnd_le (U := fun i => !M.down i) (L := lf M C) (k := k) (l := lf M C k + 1)
      cases hd : M.down k with
      | true =>
        rw [hd] at m4
        have HR : Hid (∀ o, (wr.alloc o).rowIs w1.heap.size 3 (C + 1) (fun l => .int .i64 (bnd (fun i => !M.down i) (lf M C) (k + 1) l : Nat))) := fun o => (hrow.alloc o).congr (fun l _ => by rw [bnd_skip (by simp [hd])])
        have HB := hid_mk hb2
        have hsw := hb2.size
        clear hd hm hrow hb2
        go_wp2
        go_roundw
        case rel => exact ⟨k + 1, by omega, by go_num, HR.out _, HB.out.alloc hsw _⟩
        case measure => simp [intOf]; omega
      | false =>
        rw [hd] at m4
        have HR : Hid (∀ o, ((wr.alloc o).setCell ⟨w1.heap.size, lf M C k + 1, none⟩ (.int .i64 ((bnd (fun i => !M.down i) (lf M C) k (lf M C k + 1) : Nat) + 1))).rowIs w1.heap.size 3 (C + 1) (fun l => .int .i64 (bnd (fun i => !M.down i) (lf M C) (k + 1) l : Nat))) :=
          fun o => ((hrow.alloc o).set _ _).congr (fun l _ => bnd_stored (by simp [hd]) l)
        have e0 := fun o => (hrow.alloc o).cell (i := lf M C k + 1) (by omega)
        have f0 := fun o => (hrow.alloc o).frozen (lf M C k + 1)
        have HB := hid_mk hb2
        have hsw := hb2.size
        generalize bnd (fun i => !M.down i) (lf M C) k (lf M C k + 1) = bv at hbl e0 HR
        generalize lf M C k = l at hm hlC e0 f0 HR
        clear hd hrow hb2
        go_wp2
        go_roundw
        case rel => exact ⟨k + 1, by omega, by go_num, HR.out _, (HB.out.alloc hsw _).setCell (Nat.le_refl _) _⟩
        case measure => simp [intOf]; omega
    · obtain rfl : n = k := by omega
      clear hlt hk
      have hst := hrow.congr (g := fun l => .int .i64 (bsum (fun i => !M.down i) (lf M C) n 1 l : Nat)) (fun l _ => by rw [bsum_one])
      go_wp2
      go_loopw [8] (fun i wr => ∃ l : Nat, 1 ≤ l ∧ l ≤ C + 1 ∧ i = .int .i64 l ∧ wr.rowIs w1.heap.size 3 (C + 1) (fun j => .int .i64 (bsum (fun i => !M.down i) (lf M C) n l j : Nat)) ∧ Below w1.heap.size w1 wr) (fun i _ => C + 1 - (intOf i).toNat)
      case atStart => exact ⟨1, Nat.le_refl _, by omega, rfl, hst, hb2⟩
      case round =>
        obtain ⟨l, hl1, hl2, rfl, hrow3, hb3⟩ := hrel
        clear hst hrow hb2
        by_cases hlt : l ≤ C
        · have e0 := hrow3.cell (i := l) (by omega)
          have e1 := hrow3.cell (i := l - 1) (by omega)
          have f0 := hrow3.frozen l
          have b0 := bsum_le (U := fun i => !M.down i) hL (l := l) (j := l) (by omega)
          have b1 := bsum_le (U := fun i => !M.down i) hL (l := l) (j := l - 1) (by omega)
          have HR := hid_mk ((hrow3.set l (.int .i64 ((bsum (fun i => !M.down i) (lf M C) n l l : Nat) + (bsum (fun i => !M.down i) (lf M C) n l (l - 1) : Nat) : Int))).congr (fun j _ => bsum_stored hl1 j))
          have HB := hid_mk (hb3.setCell (p := ⟨w1.heap.size, l, none⟩) (Nat.le_refl _) (.int .i64 ((bsum (fun i => !M.down i) (lf M C) n l l : Nat) + (bsum (fun i => !M.down i) (lf M C) n l (l - 1) : Nat) : Int)))
          generalize bsum (fun i => !M.down i) (lf M C) n l l = x0 at e0 b0 HR HB
          generalize bsum (fun i => !M.down i) (lf M C) n l (l - 1) = x1 at e1 b1 HR HB
          clear hrow3 hb3
          go_wp2
          go_region
          all_goals go_wp2
          go_roundw
          case rel => exact ⟨l + 1, by omega, by omega, by go_num, HR.out.drew, HB.out.drew⟩
          case measure => simp [intOf]; omega
        · obtain rfl : l = C + 1 := by omega
          obtain ⟨w2, rfl⟩ : ∃ w2 : World, w2 = wr := ⟨_, rfl⟩
          have hbds := hrow3.congr (g := fun l => .int .i64 (start (fun i => !M.down i) (lf M C) n l : Nat)) (fun l h => by rw [bsum_end (by omega)])
          clear hlt hl1 hl2 hrow3
          have hw12 := hbds.lt
          have hb2 : Below w.heap.size w w2 := hb1.trans (hb3.mono hb1.size)
          have hm29 := fun (W : World) => hZ29.run C W (by omega)
          have hsp2 : sp < w2.heap.size := Nat.lt_of_lt_of_le hspl hb2.size
          obtain ⟨w3, hcp, hnx, hb3'⟩ := run_copy_start (U := fun i => !M.down i) (L := lf M C) (n := n) (w2.alloc (.cells (Z29 C) 3)) w1.heap.size w2.heap.size C (hbds.alloc _) ⟨_, heap_alloc_new _ _, (hZ29.len C).trans (Nat.mul_one C)⟩ w2 w2.heap.size ((Below.refl _ _).alloc (Nat.le_refl _) _) (Nat.le_refl _)
          have hn3 : ∀ j, j < 7 → w3.cell? ⟨sp, j, none⟩ = some (setC (.slice (some ⟨mb, 0, none⟩) n n) (.slice (some ⟨nb, 0, none⟩) up up) (.slice wa wl wc) true (.slice (some ⟨tb, 0, none⟩) (t1 + 1) (t1 + 1)) (.slice none 0 0) j) :=
            fun j hj => (hb3'.cell (p := ⟨sp, j, none⟩) hsp2).trans ((hb2.cell (p := ⟨sp, j, none⟩) hspl).trans (hB.set.cell hj))
          have hs3 : w3.rowIs sp 68 7 (setC (.slice (some ⟨mb, 0, none⟩) n n) (.slice (some ⟨nb, 0, none⟩) up up) (.slice wa wl wc) true (.slice (some ⟨tb, 0, none⟩) (t1 + 1) (t1 + 1)) (.slice none 0 0)) := old_row (old_row hB.set hb2 hspl) hb3' hsp2
          have g1 : w3.cell? ⟨sp, 1, none⟩ = some (.slice (some ⟨nb, 0, none⟩) up up) := hs3.cell (i := 1) (by omega)
          subst hw1
          subst hw2
          subst hw3
          have g2 : ∀ o, (w3.alloc o).cell? ⟨sp, 2, none⟩ = some (.slice none 0 0) := fun o => (hs3.alloc o).cell (i := 2) (by omega)
          have g0 : ∀ o, (w3.alloc o).cell? ⟨sp, 0, none⟩ = some (.slice (some ⟨mb, 0, none⟩) n n) := fun o => (hs3.alloc o).cell (i := 0) (by omega)
          have hm65 := fun (W : World) => hZ65.run up W (by omega)
          have hw23 := hnx.lt
          clear hn3
          go_wp2
          have hstart := sorted_startF w3 w2.heap.size C up n (M := M) (U := fun i => !M.down i) (L := lf M C) hZ65 hnx
          have hb3s := hb3'.size
          clear hm29 hm65 hcp g0 g1 g2 hZ29 hZ65 
          go_loopw [104] (fun i wr => ∃ (k : Nat) (ni : Nat → ByteArray) (nn : Nat → Int) (wt : Nat → Nat), k ≤ n ∧ i = .int .i64 k ∧ Sorted wr w2.heap.size w3.heap.size (w3.heap.size + 1) C up n k false M (fun i => !M.down i) (lf M C) ni nn wt ∧ Below w2.heap.size w2 wr) (fun i _ => n - (intOf i).toNat)
          case atStart => exact ⟨0, _, _, _, Nat.zero_le _, rfl, hstart, hb3'.alloc hb3s _⟩
          case round =>
            obtain ⟨k, ni, nn, wt, hk, rfl, hso, hb4⟩ := hrel
            clear hstart
            by_cases hlt : k < n
            · have hmem4 : wr.rowIs mb 77 (n * 5) (strF 5 (memG M) memZ n) := old_row (old_row hB.mem hb2 hmbl) hb4 (Nat.lt_of_lt_of_le hmbl hb2.size)
              obtain ⟨m0, m1, m2, m3, m4⟩ := rowIs_cell5 hmem4 hlt
              have hmw : mb < wr.heap.size := hmem4.lt
              obtain ⟨hs0, hs1⟩ := hsl k hlt
              have hm := lf_eq (M := M) (i := k) hC0
              have hlC := hL k hlt
              have hNBw := hso.nod.lt
              have hNXw := hso.nx.lt
              
              have hsw := hb4.size
              cases hd : M.down k with
              | true =>
                rw [hd] at m4
                have HR : Hid (∀ o, Sorted (wr.alloc o) w2.heap.size w3.heap.size (w3.heap.size + 1) C up n (k + 1) false M (fun i => !M.down i) (lf M C) ni nn wt) := fun o => hso.skip (by simp [hd]) o
                have HB : Hid (∀ o, Below w2.heap.size w2 (wr.alloc o)) := fun o => hb4.alloc hsw o
                clear hd hm hmem4 hso hb4 hbds hTR hs3 hb3 hb3' hb1 hb2 hnx
                go_wp2
                go_roundw
                case rel => exact ⟨k + 1, ni, nn, wt, by omega, by go_num, HR.out _, HB.out _⟩
                case measure => simp [intOf]; omega
              | false =>
                rw [hd] at m4
                have hU : (fun i => !M.down i) k = true := by simp [hd]
                have hpu := pos_up (U := fun i => !M.down i) hL hlt hU
                rw [← HUP.out] at hpu
                have e0 : wr.cell? ⟨w2.heap.size, lf M C k, none⟩ = some (.int .i64 (pos (fun i => !M.down i) (lf M C) n k : Nat)) := hso.nx.cell hlC
                have e1 := (node_cell hso.nod hpu).1
                have e2 := (node_cell hso.nod hpu).2
                have f0 := hso.nx.frozen (lf M C k)
                have f1 := hso.nod.frozen (pos (fun i => !M.down i) (lf M C) n k * 2)
                have f2 := hso.nod.frozen (pos (fun i => !M.down i) (lf M C) n k * 2 + 1)
                
                have HR := hid_mk (fun o => hso.stepF hlt hU hw23 o)
                have HB := hid_mk hb4
                generalize pos (fun i => !M.down i) (lf M C) n k = p at hpu e0 e1 e2 f1 f2 HR
                generalize lf M C k = l at hm hlC e0 f0 HR
                clear hd hU hmem4 hso hb4 hbds hTR hs3 hb3 hb3' hb1 hb2 hnx
                go_wp2
                go_region
                all_goals go_wp2
                
                go_roundw
                case rel =>
                  refine ⟨k + 1, _, _, _, by omega, by go_num, (HR.out _).drew, ?_⟩
                  exact (((((HB.out.setCell (by show w2.heap.size ≤ w3.heap.size; omega) _).setCell (by show w2.heap.size ≤ w3.heap.size; omega) _).setCell (Nat.le_refl _) _).alloc (by simp [World.setCell]; omega) _).drew)
                case measure => simp [intOf]; omega
            · obtain rfl : n = k := by omega
              clear hlt hk
              obtain ⟨w4, rfl⟩ : ∃ w4 : World, w4 = wr := ⟨_, rfl⟩
              have hs4 : w4.rowIs sp 68 7 _ := old_row (old_row hB.set hb2 hspl) hb4 hsp2
              have g1 : w4.cell? ⟨sp, 1, none⟩ = some (.slice (some ⟨nb, 0, none⟩) up up) := hs4.cell (i := 1) (by omega)
              have g2 := hs4.cell (i := 2) (by omega)
              have g6 : w4.cell? ⟨sp, 6, none⟩ = some (.slice none 0 0) := hs4.cell (i := 6) (by omega)
              have f1 := hs4.frozen 1
              have f2 := hs4.frozen 2
              have f6 := hs4.frozen 6
              have HSO := hid_mk hso
              have HBD := hid_mk hbds
              have HS4 := hid_mk hs4
              have HTR := hid_mk hTR
              have HB := hid_mk hB
              have HB2 := hid_mk hb2
              have HB3 := hid_mk hb3
              have HB4 := hid_mk hb4
              have hsw4 := hb4.size
              have hg1 : g ≠ w1.heap.size := by omega
              clear hso hbds hs4 hTR hB hb1 hb2 hb3 hb4 hs3 hb3' hnx
              go_wp2
              obtain ⟨w5, hw5⟩ : ∃ w5 : World, w5 = (((w4.setCell ⟨sp, 1, none⟩ (.slice (some ⟨w3.heap.size, 0, none⟩) up up)).setCell ⟨sp, 2, none⟩ (.slice none 0 0)).setCell ⟨sp, 6, none⟩ (.slice (some ⟨w1.heap.size, 0, none⟩) (C + 1) (C + 1))) := ⟨_, rfl⟩
              rw [← hw5]
              have S5 : w5.rowIs sp 68 7 (setC (.slice (some ⟨mb, 0, none⟩) n n) (.slice (some ⟨w3.heap.size, 0, none⟩) up up) (.slice none 0 0) true (.slice (some ⟨tb, 0, none⟩) (t1 + 1) (t1 + 1)) (.slice (some ⟨w1.heap.size, 0, none⟩) (C + 1) (C + 1))) := by
                rw [hw5]
                exact set3_row HS4.out _ _ _
              have hblk : ∀ k, k ≠ sp → w5.heap[k]? = w4.heap[k]? := fun k hk => by
                rw [hw5]
                exact set3_block hk _ _ _
              have hsz5 : w5.heap.size = w4.heap.size := by rw [hw5]; exact set3_size _ _ _
              have T5 : TierRow w5 g cap (t1 + 1) F vb (fun _ => 0) (t1 + 1) := HTR.out.of_block ((hblk g (by omega)).trans ((HB4.out.block g (by omega)).trans (HB3.out.block g hgl)))
              have bds5 := HBD.out.of_block ((hblk w1.heap.size (by omega)).trans (HB4.out.block w1.heap.size hw12))
              have nod5 := HSO.out.nod.of_block (hblk w3.heap.size (by omega))
              
              have eq5 := HSO.out.eq
              have vms5 : ∀ t, t < t1 + 1 → w5.rowIs (vb t) 22 (szF F t) (fun v => .int .u64 (dig nd D (Pl.offTo (fN F) t + v))) := fun t ht =>
                (HB.out.vms t ht).of_block ((hblk (vb t) (HB.out.vbs t ht)).trans ((HB4.out.block _ (Nat.lt_of_lt_of_le (HB.out.vms t ht).lt HB2.out.size)).trans (HB2.out.block _ (HB.out.vms t ht).lt)))
              have HVS := hid_mk HB.out.vbs
              have hvbl : ∀ t, t < t1 + 1 → vb t < w.heap.size := fun t ht => (HB.out.vms t ht).lt
              have but5 : But sp w.heap.size w w5 := by
                rw [hw5]
                exact set3_but (But.of_below (HB2.out.trans (HB4.out.mono HB2.out.size))) _ _ _
              clear hw5 HS4 HTR HBD HSO HB HB2 HB3 HB4 hblk g1 g2 g6 f1 f2 f6
              have H5 := hid_mk (And.intro S5 (And.intro bds5 (And.intro nod5 (And.intro eq5 (And.intro vms5 (And.intro but5 hvbl))))))
              have hsp5 := S5.lt
              have hbb5 := bds5.lt
              clear S5 bds5 nod5 eq5 vms5 but5 hvbl
              have hg5 : g < w5.heap.size := T5.lt
              have hLR5 : LR w5 w5 g cap (t1 + 1) F vb (fun _ => 0) (occB (fun i => !M.down i) (lf M C) n) (t1 + 1) := ⟨T5, fun t h1 h2 => by omega, But.refl _ _ _, hg5⟩
              clear T5
              generalize hocc : occB (fun i => !M.down i) (lf M C) n = occ at hLR5
              have HOCC := hid_mk hocc
              clear hocc
              go_loopw [15] (fun i wr => ∃ (m : Nat) (lb : Nat → Nat), m ≤ t1 + 1 ∧ i = .int .i64 ((m : Int) - 1) ∧ LR w5 wr g cap (t1 + 1) F vb lb occ m) (fun i _ => (intOf i + 1).toNat)
              case atStart => exact ⟨t1 + 1, _, Nat.le_refl _, by go_num, hLR5⟩
              case round =>
                obtain ⟨m, lb, hm, hi6, hR6⟩ := hrel
                clear hLR5
                rcases m with _ | t
                · have hi' : u15 = .int .i64 (-1) := by rw [hi6]; rfl
                  clear hi6
                  subst hi'
                  have S6 := hR6.but.row H5.out.1 hsp5 (by omega)
                  have c5 := S6.cell (i := 5) (by omega)
                  have f5 := S6.frozen 5
                  have HS6 := hid_mk ((S6.set 5 (.slice (some ⟨g, 0, none⟩) (t1 + 1) cap)).congr set_field5)
                  have HR6 := hid_mk hR6
                  clear S6 hR6
                  go_wp2
                  go_end0
                  refine ⟨rfl, w3.heap.size, w3.heap.size + 1, w1.heap.size, g, cap, lb, ni, nn, wt, clus_done HCC.out HOCC.out HS6.out HR6.out H5.out.2.1 H5.out.2.2.1 (fun e => by cases e) H5.out.2.2.2.1 H5.out.2.2.2.2.1 H5.out.2.2.2.2.2.2 (by omega) (by omega) (by omega) (by omega) hgB (by omega) HVS.out hsp5, ?_⟩
                  exact clus_but H5.out.2.2.2.2.2.1 HR6.out.but hgB
                · have hi' : u15 = .int .i64 (t : Int) := by rw [hi6]; congr 1; omega
                  clear hi6
                  subst hi'
                  have hszb : szF F t ≤ 4096 := Nat.le_trans (Pl.prodTo_le hm hS.one) hS.prod
                  have v0 := hR6.tie.vm (t := t) (by omega)
                  have hm23 := fun (W : World) => hZ23.run (szF F t) W (by omega)
                  have hst := (hZ23.row1 wr (szF F t)).congr (g := fun v => .int .u64 (if v < 0 then liveV (lvB occ (fN F) (t1 + 1) t v) else 0)) (fun i _ => by simp)
                  have hb6s := hR6.but.size
                  have hgw : g < wr.heap.size := hR6.tie.lt
                  obtain ⟨w6, rfl⟩ : ∃ w6 : World, w6 = wr := ⟨_, rfl⟩
                  by_cases hlast : t = t1
                  · subst hlast
                    go_wp2
                    clear hm23
                    go_loopw [165] (fun i wx => ∃ v : Nat, v ≤ szF F t ∧ i = .int .i64 v ∧ wx.rowIs w6.heap.size 22 (szF F t) (fun i => .int .u64 (if i < v then liveV (lvB occ (fN F) (t + 1) t i) else 0)) ∧ Below w6.heap.size w6 wx) (fun i _ => szF F t - (intOf i).toNat)
                    case atStart => exact ⟨0, Nat.zero_le _, rfl, hst, (Below.refl _ _).alloc (Nat.le_refl _) _⟩
                    case round =>
                      obtain ⟨v, hv, rfl, hrow, hbx⟩ := hrel
                      clear hst
                      by_cases hlv : v < szF F t
                      · have hbd : wr.rowIs w1.heap.size 3 (C + 1) _ := (hR6.but.row H5.out.2.1 hbb5 hg1.symm).of_block (hbx.block _ (by omega))
                        have hvC : v < C := by rw [← HCC.out]; exact hlv
                        have e0 := hbd.cell (i := v) (by omega)
                        have e1 := hbd.cell (i := v + 1) (by omega)
                        have b0 := start_bound (U := fun i => !M.down i) hL (l := v) (by omega)
                        have b1 := start_bound (U := fun i => !M.down i) hL (l := v + 1) (by omega)
                        have d0 := hrow.cell hlv
                        have f0 := hrow.frozen v
                        have hsl5 := start_live (U := fun i => !M.down i) (L := lf M C) (n := n) (v := v)
                        rw [HOCC.out] at hsl5
                        have HL := hid_mk (lvB_last occ (fN F) t v)
                        by_cases hgt : start (fun i => !M.down i) (lf M C) n v < start (fun i => !M.down i) (lf M C) n (v + 1)
                        · have HO := hid_mk (hsl5.1 hgt)
                          have HR := hid_mk ((hrow.set v (.int .u64 18446744073709551615)).congr (live_yes (p := lvB occ (fN F) (t + 1) t) (HL.out.trans HO.out)))
                          have HBX := hid_mk (hbx.setCell (p := ⟨w6.heap.size, v, none⟩) (Nat.le_refl _) (.int .u64 18446744073709551615))
                          generalize start (fun i => !M.down i) (lf M C) n v = x0 at e0 b0 hgt
                          generalize start (fun i => !M.down i) (lf M C) n (v + 1) = x1 at e1 b1 hgt
                          generalize (if v < v then liveV (lvB occ (fN F) (t + 1) t v) else 0) = q at d0
                          clear hsl5 hrow hbx hbd hR6 hL hsl hS hZ23
                          go_wp2
                          go_region
                          all_goals go_wp2
                          go_roundw
                          case rel => exact ⟨v + 1, by omega, by go_num, HR.out.drew, HBX.out.drew⟩
                          case measure => simp [intOf]; omega
                        · have HO : Hid (occ v = false) := by
                            show occ v = false
                            cases ho : occ v
                            · rfl
                            · exact absurd (hsl5.2 ho) hgt
                          have HR := hid_mk (hrow.congr (live_no (p := lvB occ (fN F) (t + 1) t) (HL.out.trans HO.out)))
                          have HBX := hid_mk hbx
                          generalize start (fun i => !M.down i) (lf M C) n v = x0 at e0 b0 hgt
                          generalize start (fun i => !M.down i) (lf M C) n (v + 1) = x1 at e1 b1 hgt
                          clear hsl5 hrow hbx hbd hR6 hL hsl hS hZ23 d0 f0
                          go_wp2
                          go_region
                          all_goals go_wp2
                          go_roundw
                          case rel => exact ⟨v + 1, by omega, by go_num, HR.out.drew, HBX.out.drew⟩
                          case measure => simp [intOf]; omega
                      · have hr := hrow.congr (g := fun v => .int .u64 (liveV (lvB occ (fN F) (t + 1) t v))) (fun i h => by rw [if_pos (by omega)])
                        have hTx := hR6.tie.of_block (hbx.block g hgw)
                        have l0 := hTx.liv (t := t) (by omega)
                        have l1 := hTx.fro (t * 3 + 2)
                        have HR := hid_mk (hR6.step hbx hr)
                        generalize liveS lb (szF F) (t + 1) t = q at l0
                        clear hr hTx hrow hbx hR6 hL hsl hS hZ23
                        go_wp2
                        go_roundw
                        case rel => exact ⟨t, _, by omega, by go_num, HR.out⟩
                        case measure => simp [intOf]
                  · have hlt : t + 1 < t1 + 1 := by omega
                    have hne : ((t : Int) == (t1 : Int)) = false := by simp; omega
                    have hfx := hS.eq (t + 1) hlt
                    have hx1 := hS.one (t + 1) hlt
                    have hszs : szF F (t + 1) = szF F t * fN F (t + 1) := rfl
                    have hszb' : szF F (t + 1) ≤ 4096 := Nat.le_trans (Pl.prodTo_le (show t + 1 + 1 ≤ t1 + 1 by omega) hS.one) hS.prod
                    have hpp : 1 ≤ per (fN F) (t1 + 1) (t + 1) := Pl.prodFrom_pos (fun i hi => hS.one i (by omega))
                    obtain ⟨k1, k2⟩ := hR6.live (t + 1) (Nat.le_refl _) hlt
                    go_wp2
                    clear hm23
                    go_loopw [165] (fun i wx => ∃ v : Nat, v ≤ szF F t ∧ i = .int .i64 v ∧ wx.rowIs w6.heap.size 22 (szF F t) (fun i => .int .u64 (if i < v then liveV (lvB occ (fN F) (t1 + 1) t i) else 0)) ∧ Below w6.heap.size w6 wx) (fun i _ => szF F t - (intOf i).toNat)
                    case atStart => exact ⟨0, Nat.zero_le _, rfl, hst, (Below.refl _ _).alloc (Nat.le_refl _) _⟩
                    case round =>
                      obtain ⟨v, hv, rfl, hrow, hbx⟩ := hrel
                      clear hst
                      by_cases hlv : v < szF F t
                      · have hTx := hR6.tie.of_block (hbx.block g hgw)
                        have c0 := hTx.fan (t := t + 1) hlt
                        have c2 := hTx.liv (t := t + 1) hlt
                        rw [show liveS lb (szF F) (t + 1) (t + 1) = .slice (some ⟨lb (t + 1), 0, none⟩) (szF F (t + 1)) (szF F (t + 1)) from if_pos (Nat.le_refl _)] at c2
                        rw [hfx] at c0
                        have kx := old_row k2 hbx k2.lt
                        have k2' := k2
                        have HLV := hid_mk (lvB_step occ (fN F) hlt hpp v)
                        have hvx : v * fN F (t + 1) + fN F (t + 1) ≤ szF F (t + 1) := by
                          rw [hszs, ← Nat.succ_mul]; exact Nat.mul_le_mul_right _ hlv
                        have hrow0 := hrow.congr (liveF_start (lvB occ (fN F) (t1 + 1) t) v)
                        clear hrow hTx
                        obtain ⟨vf, hvf⟩ : ∃ vf, vf = v * fN F (t + 1) := ⟨_, rfl⟩
                        have hvfI : (v : Int) * (fN F (t + 1) : Int) = (vf : Int) := by rw [hvf]; simp
                        rw [← hvf] at hvx HLV
                        clear hvf
                        generalize fN F (t + 1) = x at c0 hx1 hvfI hvx HLV
                        generalize szF F (t + 1) = sx at c2 hszb' hvx kx k2'
                        go_wp2
                        go_loopw [206] (fun i wx => ∃ d : Nat, d ≤ x ∧ i = .int .i64 d ∧ wx.rowIs w6.heap.size 22 (szF F t) (fun i => .int .u64 (liveF (lvB occ (fN F) (t1 + 1) t) (liveV (anyFrom (lvB occ (fN F) (t1 + 1) (t + 1)) vf d)) v i)) ∧ Below w6.heap.size w6 wx) (fun i _ => x - (intOf i).toNat)
                        case atStart => exact ⟨0, Nat.zero_le _, rfl, hrow0, hbx⟩
                        case round =>
                          obtain ⟨d, hd, rfl, hrw, hby⟩ := hrel
                          clear hrow0
                          by_cases hld : d < x
                          · have e0 := (old_row k2' hby k2'.lt).cell (i := vf + d) (by omega)
                            have e1 := hrw.cell hlv
                            simp only [liveF_at] at e1
                            have f1 := hrw.frozen v
                            have HR := hid_mk ((hrw.set v (.int .u64 (bits .or .u64 (liveV (anyFrom (lvB occ (fN F) (t1 + 1) (t + 1)) vf d)) (liveV (lvB occ (fN F) (t1 + 1) (t + 1) (vf + d)))))).congr (liveF_or (lvB occ (fN F) (t1 + 1) t) (lvB occ (fN F) (t1 + 1) (t + 1)) vf d v))
                            have HBY := hid_mk (hby.setCell (p := ⟨w6.heap.size, v, none⟩) (Nat.le_refl _) (.int .u64 (bits .or .u64 (liveV (anyFrom (lvB occ (fN F) (t1 + 1) (t + 1)) vf d)) (liveV (lvB occ (fN F) (t1 + 1) (t + 1) (vf + d))))))
                            generalize liveV (anyFrom (lvB occ (fN F) (t1 + 1) (t + 1)) vf d) = q0 at e1 HR HBY
                            generalize liveV (lvB occ (fN F) (t1 + 1) (t + 1) (vf + d)) = q1 at e0 HR HBY
                            clear hrw hby hbx hR6 hL hsl hS hZ23 k2 kx c2
                            go_wp2
                            go_roundw
                            case rel => exact ⟨d + 1, by omega, by go_num, HR.out, HBY.out⟩
                            case measure => simp [intOf]; omega
                          · obtain rfl : x = d := by omega
                            have HR := hid_mk ((hrw.congr (fun i _ => by rw [← HLV.out])).congr (liveF_end (lvB occ (fN F) (t1 + 1) t) v))
                            have HBY := hid_mk hby
                            clear hrw hby hbx hR6 hL hsl hS hZ23 k2 kx c2 hld hd
                            go_wp2
                            go_roundw
                            case rel => exact ⟨v + 1, by omega, by go_num, HR.out, HBY.out⟩
                            case measure => simp [intOf]; omega
                      · have hr := hrow.congr (g := fun v => .int .u64 (liveV (lvB occ (fN F) (t1 + 1) t v))) (fun i h => by rw [if_pos (by omega)])
                        have hTx := hR6.tie.of_block (hbx.block g hgw)
                        have l0 := hTx.liv (t := t) (by omega)
                        have l1 := hTx.fro (t * 3 + 2)
                        have HR := hid_mk (hR6.step hbx hr)
                        generalize liveS lb (szF F) (t + 1) t = q at l0
                        clear hr hTx hrow hbx hR6 hL hsl hS hZ23 hszs k1 k2 hfx
                        go_wp2
                        go_roundw
                        case rel => exact ⟨t, _, by omega, by go_num, HR.out⟩
                        case measure => simp [intOf]
end Go.Proofs.Qxb6600905aMods
