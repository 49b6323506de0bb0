import Derived.Test.Qxb6000909aModsJoinWalk
import Derived.Test.Qxb6000909aModsJoinPlain
namespace Go.Proofs.Qxb6000909aMods
open Go.RowKit

theorem info9 : (Trym.prog.info? 9).map (fun i => (i.zero, i.size, i.bytes)) = some (some (.string ByteArray.empty), 1, 16) := by kernel_rfl

theorem bytes_ext {a b : ByteArray} (h : a.data.toList = b.data.toList) : a = b :=
  ByteArray.ext (Array.toList_inj.1 h)

/-- The escaped text, as a string. -/
def escS (s : ByteArray) : ByteArray := ⟨(Cut.esc s.data.toList).toArray⟩
theorem escS_data (s : ByteArray) : (escS s).data.toList = Cut.esc s.data.toList := rfl
theorem escS_size (s : ByteArray) : (escS s).size = (Cut.esc s.data.toList).length := by simp [escS, ByteArray.size]
theorem escS_cells (s : ByteArray) : Lib.strCells (escS s) = byteCells (Cut.esc s.data.toList) := rfl

/-- The three rows that the law makes: the copy of the texts, the escaped texts, the join. -/
structure Three (w wr : World) (C E J len cap : Nat) (f g : Nat → Value) (l : List UInt8) : Prop where
  hC : w.heap.size ≤ C
  hE : C < E
  hJ : E < J
  c : wr.rowIs C 9 len f
  e : wr.rowIs E 9 len g
  j : wr.ownsRow J 5 1 (.slice (some ⟨J, 0, none⟩) l.length cap) l.length (byteCells l)
  b : Below w.heap.size w wr

theorem own_lt {wr : World} {J n cap : Nat} {l : List Value} (h : wr.ownsRow J 5 1 (.slice (some ⟨J, 0, none⟩) n cap) n l) : J < wr.heap.size := by
  rcases h.2 with ⟨h', _⟩ | ⟨g', cap', cur, h', _, hg, _⟩
  · simp at h'
  · simp only [Value.slice.injEq, Option.some.injEq, Addr.mk.injEq, and_true, true_and] at h'
    obtain ⟨rfl, rfl⟩ := h'
    exact (Array.getElem?_eq_some_iff.1 hg).1

theorem own_block {wr w1 : World} {J n cap : Nat} {l : List Value} (h : wr.ownsRow J 5 1 (.slice (some ⟨J, 0, none⟩) n cap) n l) (e : w1.heap[J]? = wr.heap[J]?) :
    w1.ownsRow J 5 1 (.slice (some ⟨J, 0, none⟩) n cap) n l := by
  rcases h.2 with ⟨h', _⟩ | ⟨g', cap', cur, h', x1, hg, x2⟩
  · simp at h'
  · have hh := h'
    simp only [Value.slice.injEq, Option.some.injEq, Addr.mk.injEq, and_true, true_and] at h'
    obtain ⟨rfl, rfl⟩ := h'
    exact ⟨h.1, Or.inr ⟨_, _, cur, rfl, x1, e.trans hg, x2⟩⟩

variable {w wr w1 : World} {C E J len cap : Nat} {f g : Nat → Value} {l : List UInt8}

theorem Three.below (h : Three w wr C E J len cap f g l) (hb : Below wr.heap.size wr w1) : Three w w1 C E J len cap f g l :=
  ⟨h.hC, h.hE, h.hJ, h.c.of_block (hb.block _ h.c.lt), h.e.of_block (hb.block _ h.e.lt), own_block h.j (hb.block _ (own_lt h.j)), h.b.trans (hb.mono h.b.size)⟩

theorem Three.alloc (h : Three w wr C E J len cap f g l) (o : Obj) : Three w (wr.alloc o) C E J len cap f g l :=
  h.below ((Below.refl _ _).alloc (Nat.le_refl _) o)

theorem Three.store (h : Three w wr C E J len cap f g l) (i : Nat) (v : Value) : Three w (wr.setCell ⟨E, i, none⟩ v) C E J len cap f (fun j => if j = i then v else g j) l :=
  ⟨h.hC, h.hE, h.hJ, h.c.setOther (by show C ≠ E; have := h.hE; omega) v, h.e.set i v,
    own_block h.j (Below.heap_setCell _ _ _ _ (by show J ≠ E; have := h.hJ; omega)), h.b.setCell (by show _ ≤ E; have := h.hC; have := h.hE; omega) v⟩

theorem Three.grown (h : Three w wr C E J len cap f g l) {x : List UInt8} {m : Nat} (hx : x.length = m) (hg : wr.grownBy w1 (some J))
    (hj : w1.ownsRow J 5 1 (.slice (some ⟨J, 0, none⟩) (l.length + m) cap) (l.length + m) (byteCells l ++ byteCells x)) : Three w w1 C E J len cap f g (l ++ x) := by
  have h1 := h.hE
  have h2 := h.hJ
  refine ⟨h.hC, h.hE, h.hJ, h.c.of_block (hg.block _ h.c.lt ?_), h.e.of_block (hg.block _ h.e.lt ?_), ?_, h.b.grown hg h.b.size ?_⟩
  · intro e; cases e; omega
  · intro e; cases e; omega
  · rw [byteCells_append, List.length_append, hx]; exact hj
  · intro k hk; cases hk; have := h.hC; omega

theorem Three.congr (h : Three w wr C E J len cap f g l) {g' : Nat → Value} (e : ∀ i, i < len → g i = g' i) : Three w wr C E J len cap f g' l :=
  ⟨h.hC, h.hE, h.hJ, h.c, h.e.congr e, h.j, h.b⟩

/-- 'append(b, s...)', s a string, WITHIN THE CAPACITY: the value stays at its row's head. -/
theorem wpList_append_fits_string {P : Program} (w : World) {ops : Array Oper} {rest : List Oper} {o : Oper} {a : Act} {Q : Exit → Act → World → Prop} (hgd : o.guard = none) (sl x : Operand) (t u : TypeId)
    (ho : o.op = .call { callee := .builtin .append, args := #[sl, x], argTypes := #[t, u] })
    (base : Nat) (e : TypeId) (i : TypeInfo) (ht : P.underlying t = some (.slice e)) (hu : P.underlying u = some .string) (hi : P.info? e = some i) (hz : i.zero = some (.int .u8 0))
    (hsize : i.size = 1) (hby : i.bytes = 1)
    (g k cap : Nat) (xs : List Value) (hs : a.eval sl = .slice (some ⟨g, 0, none⟩) k cap) (hown : w.ownsRow base e 1 (.slice (some ⟨g, 0, none⟩) k cap) k xs) (s : ByteArray) (hx : a.eval x = .string s)
    (hroom : k + s.size ≤ cap) (hbytes : k + s.size ≤ 140737488355328) (hbase : base ≤ w.heap.size)
    (h : ∀ w', w'.ownsRow base e 1 (.slice (some ⟨g, 0, none⟩) (k + s.size) cap) (k + s.size) (xs ++ Lib.strCells s) → w.grownBy w' (some g) → wpList P ops Q rest (a.put o.dst (.slice (some ⟨g, 0, none⟩) (k + s.size) cap)) w') :
    wpList P ops Q (o :: rest) a w := by
  refine wpList_plain hgd fun K hK => ?_
  obtain ⟨v', w', hr, h2, h3, h4⟩ := Lib.run_append_own_string (P := P) w base t u o.type e i ht hu hi hz hsize hby _ k xs hown s (by unfold maxLen; omega) hbytes hbase
  have hr2 : ∃ cur, w.heap[g]? = some (.cells cur e (0, 0)) ∧ cur.size = cap := by
    rcases hown.2 with ⟨h', _⟩ | ⟨g', cap', cur, h', _, hg, _, _, hcs, _⟩
    · simp at h'
    · simp only [Value.slice.injEq, Option.some.injEq, Addr.mk.injEq, and_true, true_and] at h'
      obtain ⟨rfl, rfl⟩ := h'
      exact ⟨cur, hg, by omega⟩
  obtain ⟨cur, hg, hcs⟩ := hr2
  have hrr := Lib.run_append_room_string (P := P) w t u o.type e i ht hu hi hsize g k cap cur hg s hroom (by omega)
  have hv : v' = .slice (some ⟨g, 0, none⟩) (k + s.size) cap := by
    rw [hrr] at hr; injection hr with e1 e2; exact e1.symm
  subst hv
  unfold Oper.wp execOp
  simp only [ho, resolve, invoke, builtin, Sem.run_bind, Sem.run_pure, Result.andThen_ok, List.map_toArray, List.map_cons, List.map_nil, hs, hx, hr]
  exact hK _ _ (h w' h2 h3)

/-- One round of the last loop: the text that is left, cut, gives the next escaped text and what is left behind it. -/
theorem cut_round {L : Nat → List UInt8} {n k : Nat} {t r t' e : ByteArray} (hk : k < n) (ht : t.data.toList = Cut.rem L n (n - k)) (he : e.data.toList = Cut.esc (L k)) (h : CutIs t r t') :
    r = e ∧ t'.data.toList = Cut.rem L n (n - (k + 1)) ∧ t'.size ≤ t.size := by
  obtain ⟨j, hj⟩ : ∃ j, n - k = j + 1 := ⟨n - k - 1, by omega⟩
  have hj' : n - (k + 1) = j := by omega
  rw [hj] at ht
  rw [hj']
  cases j with
  | zero =>
    have hn : n - 1 = k := by omega
    have ht' : t.data.toList = Cut.esc (L k) := by rw [ht]; simp [Cut.rem, hn]
    rcases h with ⟨h1, _⟩ | ⟨_, rfl, rfl⟩
    · rw [ht', Cut.cutPos_esc_none] at h1; cases h1
    · exact ⟨bytes_ext (by rw [ht', he]), by simp [Cut.rem], by simp⟩
  | succ j =>
    have hn : n - (j + 2) = k := by omega
    have ht' : t.data.toList = Cut.esc (L k) ++ 38 :: Cut.rem L n (j + 1) := by rw [ht]; simp [Cut.rem, hn]
    rcases h with ⟨h1, h2, _, _, h5, _⟩ | ⟨h1, _⟩
    · rw [ht', Cut.cutPos_esc_amp] at h1
      have hs : (Cut.esc (L k)).length = r.size := by simpa using h1
      rw [ht'] at h2
      obtain ⟨e1, e2⟩ := List.append_inj h2 (by rw [hs]; simp)
      exact ⟨bytes_ext (by rw [he]; exact e1.symm), (List.cons.inj e2).2.symm, by omega⟩
    · rw [ht', Cut.cutPos_esc_amp] at h1; cases h1
end Go.Proofs.Qxb6000909aMods
