/-
  What the walk of cluster shares: frames, the tiers' row, the nodes' row.
-/
import Derived.Test.Qxb6600905aModsBuild
import Derived.Test.Qxb6600905aModsSort
namespace Go.Proofs.Qxb6600905aMods
open Go.RowKit

/-- Below block number 'B' the world is as it was, but for block 'x'. -/
structure But (x B : Nat) (w w' : World) : Prop where
  os : w'.os = w.os
  tape : w'.tape = w.tape
  output : w'.output = w.output
  size : w.heap.size ≤ w'.heap.size
  block : ∀ k, k < B → k ≠ x → w'.heap[k]? = w.heap[k]?

namespace But
variable {x B : Nat} {a w w' : World}
theorem refl (x B : Nat) (w : World) : But x B w w := ⟨rfl, rfl, rfl, Nat.le_refl _, fun _ _ _ => rfl⟩
theorem trans (h : But x B a w) (k : But x B w w') : But x B a w' :=
  ⟨k.os.trans h.os, k.tape.trans h.tape, k.output.trans h.output, Nat.le_trans h.size k.size, fun i hi hx => (k.block i hi hx).trans (h.block i hi hx)⟩
theorem of_below (h : Below B a w) : But x B a w := ⟨h.os, h.tape, h.output, h.size, fun k hk _ => h.block k hk⟩
theorem below (h : But x B a w) {B' : Nat} (h1 : B' ≤ B) (h2 : B' ≤ x) : Below B' a w := ⟨h.os, h.tape, h.output, h.size, fun k hk => h.block k (by omega) (by omega)⟩
theorem mono (h : But x B a w) {B' : Nat} (h1 : B' ≤ B) : But x B' a w := ⟨h.os, h.tape, h.output, h.size, fun k hk hx => h.block k (by omega) hx⟩
/-- Another block that may turn lies from 'B' on. -/
theorem other (h : But x B a w) {y : Nat} (hx : B ≤ x) : But y B a w := ⟨h.os, h.tape, h.output, h.size, fun k hk _ => h.block k hk (by omega)⟩
theorem alloc (h : But x B a w) (hB : B ≤ w.heap.size) (o : Obj) : But x B a (w.alloc o) := h.trans (of_below ((Below.refl B w).alloc hB o))
theorem drew (h : But x B a w) : But x B a w.drew := ⟨h.os, h.tape, h.output, h.size, h.block⟩
theorem setCell (h : But x B a w) {p : Addr} (hp : B ≤ p.block ∨ p.block = x) (u : Value) : But x B a (w.setCell p u) :=
  h.trans ⟨rfl, rfl, rfl, by simp [World.setCell], fun k hk hx => Below.heap_setCell _ _ _ _ (by rcases hp with h | h <;> omega)⟩
theorem row (h : But x B a w) {b e n : Nat} {f : Nat → Value} (hr : a.rowIs b e n f) (hb : b < B) (hx : b ≠ x) : w.rowIs b e n f := hr.of_block (h.block b hb hx)
end But

theorem rowIs_cell5 {w : World} {b n k : Nat} {M : Mems} (h : w.rowIs b 77 (n * 5) (strF 5 (memG M) memZ n)) (hk : k < n) :
    w.cell? ⟨b, k * 5, none⟩ = some (.string (M.id k)) ∧ w.cell? ⟨b, k * 5 + 1, none⟩ = some (.int .u64 (M.nm k)) ∧ w.cell? ⟨b, k * 5 + 2, none⟩ = some (.float .f64 (M.wt k)) ∧
    w.cell? ⟨b, k * 5 + 3, none⟩ = some (.int .i64 (M.slot k)) ∧ w.cell? ⟨b, k * 5 + 4, none⟩ = some (.bool (M.down k)) := by
  have e0 := h.cell (i := k * 5) (by omega)
  have e1 := h.cell (i := k * 5 + 1) (by omega)
  have e2 := h.cell (i := k * 5 + 2) (by omega)
  have e3 := h.cell (i := k * 5 + 3) (by omega)
  have e4 := h.cell (i := k * 5 + 4) (by omega)
  rw [strF_at0 (by omega) hk] at e0
  rw [strF_at (by omega) hk] at e1 e2 e3 e4
  exact ⟨e0, e1, e2, e3, e4⟩

/-! ### The tiers -/
def szF (F : Nat → Int) (t : Nat) : Nat := Pl.prodTo (fN F) (t + 1)

def liveS (lb : Nat → Nat) (sz : Nat → Nat) (m t : Nat) : Value := if m ≤ t then .slice (some ⟨lb t, 0, none⟩) (sz t) (sz t) else .slice none 0 0

/-- The tiers' row in block 'g': the tiers from 'm' on have their live marks. -/
structure TierRow (w : World) (g cap T : Nat) (F : Nat → Int) (vb lb : Nat → Nat) (m : Nat) : Prop where
  room : T ≤ cap
  row : ∃ h, w.rowIs g 79 (cap * 3) h ∧ ∀ t, t < T → h (t * 3) = .int .i64 (F t) ∧ h (t * 3 + 1) = .slice (some ⟨vb t, 0, none⟩) (szF F t) (szF F t) ∧ h (t * 3 + 2) = liveS lb (szF F) m t

namespace TierRow
variable {w w' : World} {g cap T : Nat} {F : Nat → Int} {vb lb : Nat → Nat} {m : Nat}
theorem lt (h : TierRow w g cap T F vb lb m) : g < w.heap.size := by obtain ⟨f, h1, _⟩ := h.row; exact h1.lt
theorem of_block (h : TierRow w g cap T F vb lb m) (e : w'.heap[g]? = w.heap[g]?) : TierRow w' g cap T F vb lb m := by
  obtain ⟨f, h1, h2⟩ := h.row
  exact ⟨h.room, f, h1.of_block e, h2⟩
theorem alloc (h : TierRow w g cap T F vb lb m) (o : Obj) : TierRow (w.alloc o) g cap T F vb lb m := h.of_block (Below.heap_alloc _ _ _ h.lt)
theorem drew (h : TierRow w g cap T F vb lb m) : TierRow w.drew g cap T F vb lb m := h.of_block rfl
theorem other (h : TierRow w g cap T F vb lb m) {p : Addr} (hp : g ≠ p.block) (u : Value) : TierRow (w.setCell p u) g cap T F vb lb m := h.of_block (Below.heap_setCell _ _ _ _ hp)
theorem fan (h : TierRow w g cap T F vb lb m) {t : Nat} (ht : t < T) : w.cell? ⟨g, t * 3, none⟩ = some (.int .i64 (F t)) := by
  obtain ⟨f, h1, h2⟩ := h.row
  rw [← (h2 t ht).1]; exact h1.cell (by have := h.room; omega)
theorem vm (h : TierRow w g cap T F vb lb m) {t : Nat} (ht : t < T) : w.cell? ⟨g, t * 3 + 1, none⟩ = some (.slice (some ⟨vb t, 0, none⟩) (szF F t) (szF F t)) := by
  obtain ⟨f, h1, h2⟩ := h.row
  rw [← (h2 t ht).2.1]; exact h1.cell (by have := h.room; omega)
theorem liv (h : TierRow w g cap T F vb lb m) {t : Nat} (ht : t < T) : w.cell? ⟨g, t * 3 + 2, none⟩ = some (liveS lb (szF F) m t) := by
  obtain ⟨f, h1, h2⟩ := h.row
  rw [← (h2 t ht).2.2]; exact h1.cell (by have := h.room; omega)
theorem fro (h : TierRow w g cap T F vb lb m) (i : Nat) : w.frozen? ⟨g, i, none⟩ = false := by
  obtain ⟨f, h1, _⟩ := h.row; exact h1.frozen i
/-- The live marks of tier 't' are laid. -/
theorem store {t x : Nat} (h : TierRow w g cap T F vb lb (t + 1)) : TierRow (w.setCell ⟨g, t * 3 + 2, none⟩ (.slice (some ⟨x, 0, none⟩) (szF F t) (szF F t))) g cap T F vb (fun i => if i = t then x else lb i) t := by
  obtain ⟨f, h1, h2⟩ := h.row
  refine ⟨h.room, _, h1.set _ _, fun i hi => ?_⟩
  obtain ⟨k1, k2, k3⟩ := h2 i hi
  refine ⟨?_, ?_, ?_⟩
  · show (if i * 3 = t * 3 + 2 then _ else _) = _
    rw [if_neg (by omega)]; exact k1
  · show (if i * 3 + 1 = t * 3 + 2 then _ else _) = _
    rw [if_neg (by omega)]; exact k2
  · show (if i * 3 + 2 = t * 3 + 2 then _ else _) = _
    unfold liveS
    by_cases e : i = t
    · subst e; simp
    · rw [if_neg (by omega), k3]
      unfold liveS
      by_cases h : t + 1 ≤ i
      · rw [if_pos h, if_pos (by omega)]; dsimp only; rw [if_neg e]
      · rw [if_neg h, if_neg (by omega)]
end TierRow

theorem info79 : (Trym.prog.info? 79).map (fun i => (i.zero, i.size, i.bytes)) = some (some (.agg #[.int .i64 0, .slice none 0 0, .slice none 0 0]), 3, 56) := by kernel_rfl

/-- The cells that the copy of the tiers takes. -/
def tierNews (F : Nat → Int) (vb : Nat → Nat) (T : Nat) : List Value := (List.range (T * 3)).map (strF 3 (tierG F vb (szF F)) tierZ T)

theorem tierNews_length (F : Nat → Int) (vb : Nat → Nat) (T : Nat) : (tierNews F vb T).length = T * 3 := by simp [tierNews]

theorem tierNews_at {w : World} {tb T : Nat} {F : Nat → Int} {vb : Nat → Nat} (h : w.rowIs tb 79 (T * 3) (strF 3 (tierG F vb (szF F)) tierZ T)) :
    ∀ j u, (tierNews F vb T)[j]? = some u → w.cell? ((⟨tb, 0, none⟩ : Addr).add j) = some u := by
  intro j u hu
  have hj : j < T * 3 := by
    rcases Nat.lt_or_ge j (T * 3) with h' | h'
    · exact h'
    · rw [List.getElem?_eq_none (by rw [tierNews_length]; exact h')] at hu; cases hu
  rw [tierNews, List.getElem?_map, List.getElem?_range hj] at hu
  rw [Go.WideShapes.add_plain, Nat.zero_add, ← hu]
  exact h.cell hj

theorem tierNews_one (F : Nat → Int) (vb : Nat → Nat) (T : Nat) : ∀ u ∈ tierNews F vb T, u.oneCell' = true := by
  intro u hu
  rw [tierNews, List.mem_map] at hu
  obtain ⟨c, _, rfl⟩ := hu
  unfold strF tierG tierZ tierC
  split <;> (split; rfl; (split; rfl; rfl))

/-- The copy of the tiers: a row of its own. -/
theorem tiers_copied {w1 : World} {B T : Nat} {F : Nat → Int} {vb : Nat → Nat} {v : Value} (hT : 1 ≤ T) (h : w1.ownsRow B 79 3 v T (tierNews F vb T)) :
    ∃ g cap, v = .slice (some ⟨g, 0, none⟩) T cap ∧ B ≤ g ∧ TierRow w1 g cap T F vb (fun _ => 0) T := by
  rcases h.2 with ⟨_, h0⟩ | ⟨g, cap, cur, hv, hg, hb, hc, _, hs, ht⟩
  · omega
  · refine ⟨g, cap, hv, hg, hc, fun c => cur[c]?.getD undef, ⟨cur, hb, hs, fun i hi => ?_⟩, fun t htT => ?_⟩
    · have hi' : i < cur.size := by omega
      simp [Array.getElem?_eq_getElem hi']
    · have key : ∀ c, c < T * 3 → cur[c]?.getD undef = strF 3 (tierG F vb (szF F)) tierZ T c := by
        intro c hcc
        have : (cur.toList.take (T * 3))[c]? = (tierNews F vb T)[c]? := by rw [ht]
        rw [List.getElem?_take, if_pos hcc, tierNews, List.getElem?_map, List.getElem?_range hcc] at this
        rw [← Array.getElem?_toList, this]; rfl
      refine ⟨?_, ?_, ?_⟩
      · show cur[t * 3]?.getD undef = _
        rw [key _ (by omega), strF_at0 (by omega) htT]; rfl
      · show cur[t * 3 + 1]?.getD undef = _
        rw [key _ (by omega), strF_at (by omega) htT]; rfl
      · show cur[t * 3 + 2]?.getD undef = _
        rw [key _ (by omega), strF_at (by omega) htT]
        unfold liveS; rw [if_neg (by omega)]; rfl

/-! ### The nodes -/
def nodeF (ni : Nat → ByteArray) (nn : Nat → Int) (c : Nat) : Value := nodeC (ni (c / 2)) (nn (c / 2)) (c % 2)

theorem nodeF_step (ni : Nat → ByteArray) (nn : Nat → Int) (p : Nat) (x : ByteArray) (y : Int) (c : Nat) :
    (if c = p * 2 + 1 then Value.int .u64 y else if c = p * 2 then Value.string x else nodeF ni nn c) = nodeF (fun i => if i = p then x else ni i) (fun i => if i = p then y else nn i) c := by
  unfold nodeF nodeC
  by_cases h1 : c = p * 2 + 1
  · have e1 : c / 2 = p := by omega
    have e2 : c % 2 = 1 := by omega
    rw [if_pos h1, e1, e2]; simp
  · rw [if_neg h1]
    by_cases h0 : c = p * 2
    · have e1 : c / 2 = p := by omega
      have e2 : c % 2 = 0 := by omega
      rw [if_pos h0, e1, e2]; simp
    · have e1 : c / 2 ≠ p := by omega
      rw [if_neg h0]; simp only [if_neg e1]

theorem node_set {w : World} {b n p : Nat} {ni : Nat → ByteArray} {nn : Nat → Int} (h : w.rowIs b 70 n (nodeF ni nn)) (x : ByteArray) (y : Int) :
    ((w.setCell ⟨b, p * 2, none⟩ (.string x)).setCell ⟨b, p * 2 + 1, none⟩ (.int .u64 y)).rowIs b 70 n (nodeF (fun i => if i = p then x else ni i) (fun i => if i = p then y else nn i)) :=
  ((h.set _ _).set _ _).congr (fun c _ => nodeF_step ni nn p x y c)

theorem node_cell {w : World} {b up p : Nat} {ni : Nat → ByteArray} {nn : Nat → Int} (h : w.rowIs b 70 (up * 2) (nodeF ni nn)) (hp : p < up) :
    w.cell? ⟨b, p * 2, none⟩ = some (.string (ni p)) ∧ w.cell? ⟨b, p * 2 + 1, none⟩ = some (.int .u64 (nn p)) := by
  have e0 := h.cell (i := p * 2) (by omega)
  have e1 := h.cell (i := p * 2 + 1) (by omega)
  have h1 : p * 2 / 2 = p := by omega
  have h2 : p * 2 % 2 = 0 := by omega
  have h3 : (p * 2 + 1) / 2 = p := by omega
  have h4 : (p * 2 + 1) % 2 = 1 := by omega
  unfold nodeF at e0 e1
  rw [h1, h2] at e0
  rw [h3, h4] at e1
  exact ⟨e0, e1⟩
end Go.Proofs.Qxb6600905aMods
