/-
  Rows of structs, told by the flat index; the set as it lies in memory.
-/
import Derived.Test.Qxb6600905aModsMake
namespace Go.Proofs.Qxb6600905aMods
open Go.RowKit

theorem run_store_float (P : Program) (w : World) (a : Addr) (m : Mode) (k : FloatKind) (n : Nat) : (store a (.float k n) m).run P w = stored P w a (.float k n) m := run_store P w a _ m rfl

theorem follows : Trym.prog.follows .mixedOrders = true := by kernel_rfl

/-- A set's cells. -/
def setC (ms ns ws : Value) (td : Bool) (ts bs : Value) (j : Nat) : Value :=
  if j = 0 then ms else if j = 1 then ns else if j = 2 then ws else if j = 3 then .int .u64 0 else if j = 4 then .bool td else if j = 5 then ts else bs

/-- A row of structs of 'size' cells, by the flat index: the first 'k' are 'g', the rest 'z'. -/
def strF (size : Nat) (g : Nat → Nat → Value) (z : Nat → Value) (k c : Nat) : Value := if c / size < k then g (c / size) (c % size) else z (c % size)

theorem strF_zero (size : Nat) (g : Nat → Nat → Value) (z : Nat → Value) (c : Nat) : strF size g z 0 c = z (c % size) := by simp [strF]

theorem strF_at {size : Nat} {g : Nat → Nat → Value} {z : Nat → Value} {k i j : Nat} (hj : j < size) (hi : i < k) : strF size g z k (i * size + j) = g i j := by
  have h1 : (i * size + j) / size = i := by
    rw [Nat.mul_comm, Nat.mul_add_div (by omega), Nat.div_eq_of_lt hj, Nat.add_zero]
  have h2 : (i * size + j) % size = j := by
    rw [Nat.mul_comm, Nat.mul_add_mod, Nat.mod_eq_of_lt hj]
  unfold strF; rw [h1, h2, if_pos hi]

theorem strF_at0 {size : Nat} {g : Nat → Nat → Value} {z : Nat → Value} {k i : Nat} (hj : 0 < size) (hi : i < k) : strF size g z k (i * size) = g i 0 := strF_at (j := 0) hj hi

def memG (M : Mems) (i j : Nat) : Value := memC (M.id i) (M.nm i) (M.wt i) (M.slot i) (M.down i) j
def memZ (j : Nat) : Value := memC ByteArray.empty 0 0 0 false j

theorem strF5_step (g : Nat → Nat → Value) (z : Nat → Value) (k c : Nat) :
    (if c = k * 5 + 4 then g k 4 else if c = k * 5 + 3 then g k 3 else if c = k * 5 + 2 then g k 2 else if c = k * 5 + 1 then g k 1 else if c = k * 5 then g k 0 else strF 5 g z k c) = strF 5 g z (k + 1) c := by
  by_cases h4 : c = k * 5 + 4
  · rw [if_pos h4, h4, strF_at (by omega) (by omega)]
  by_cases h3 : c = k * 5 + 3
  · rw [if_neg h4, if_pos h3, h3, strF_at (by omega) (by omega)]
  by_cases h2 : c = k * 5 + 2
  · rw [if_neg h4, if_neg h3, if_pos h2, h2, strF_at (by omega) (by omega)]
  by_cases h1 : c = k * 5 + 1
  · rw [if_neg h4, if_neg h3, if_neg h2, if_pos h1, h1, strF_at (by omega) (by omega)]
  by_cases h0 : c = k * 5
  · rw [if_neg h4, if_neg h3, if_neg h2, if_neg h1, if_pos h0, h0, strF_at0 (by omega) (by omega)]
  rw [if_neg h4, if_neg h3, if_neg h2, if_neg h1, if_neg h0]
  unfold strF
  by_cases h : c / 5 < k
  · rw [if_pos h, if_pos (by omega)]
  · rw [if_neg h, if_neg (by omega)]

theorem strF3_step (g : Nat → Nat → Value) (z : Nat → Value) (k c : Nat) :
    (if c = k * 3 + 2 then g k 2 else if c = k * 3 + 1 then g k 1 else if c = k * 3 then g k 0 else strF 3 g z k c) = strF 3 g z (k + 1) c := by
  by_cases h2 : c = k * 3 + 2
  · rw [if_pos h2, h2, strF_at (by omega) (by omega)]
  by_cases h1 : c = k * 3 + 1
  · rw [if_neg h2, if_pos h1, h1, strF_at (by omega) (by omega)]
  by_cases h0 : c = k * 3
  · rw [if_neg h2, if_neg h1, if_pos h0, h0, strF_at0 (by omega) (by omega)]
  rw [if_neg h2, if_neg h1, if_neg h0]
  unfold strF
  by_cases h : c / 3 < k
  · rw [if_pos h, if_pos (by omega)]
  · rw [if_neg h, if_neg (by omega)]

/-- Five stores: one struct of five cells. -/
theorem row_set5 {wr : World} {b e n k : Nat} {g : Nat → Nat → Value} {z : Nat → Value} (h : wr.rowIs b e n (strF 5 g z k)) :
    (((((wr.setCell ⟨b, k * 5, none⟩ (g k 0)).setCell ⟨b, k * 5 + 1, none⟩ (g k 1)).setCell ⟨b, k * 5 + 2, none⟩ (g k 2)).setCell ⟨b, k * 5 + 3, none⟩ (g k 3)).setCell ⟨b, k * 5 + 4, none⟩ (g k 4)).rowIs b e n (strF 5 g z (k + 1)) :=
  (((((h.set _ _).set _ _).set _ _).set _ _).set _ _).congr (fun c _ => strF5_step g z k c)

theorem row_set3 {wr : World} {b e n k : Nat} {g : Nat → Nat → Value} {z : Nat → Value} (h : wr.rowIs b e n (strF 3 g z k)) :
    (((wr.setCell ⟨b, k * 3, none⟩ (g k 0)).setCell ⟨b, k * 3 + 1, none⟩ (g k 1)).setCell ⟨b, k * 3 + 2, none⟩ (g k 2)).rowIs b e n (strF 3 g z (k + 1)) :=
  (((h.set _ _).set _ _).set _ _).congr (fun c _ => strF3_step g z k c)

theorem old_row {w wr : World} {b e n B : Nat} {f : Nat → Value} (h : w.rowIs b e n f) (hb : Below B w wr) (hB : b < B) : wr.rowIs b e n f := h.of_block (hb.block _ hB)
theorem kept_row {w wr : World} {b e n : Nat} {f : Nat → Value} (h : w.rowIs b e n f) (hb : Below w.heap.size w wr) : wr.rowIs b e n f := old_row h hb h.lt

/-- The set while it is made: its own cells, its members' row, and that nothing below has turned. -/
structure NS (w wr : World) (n : Nat) (M : Mems) (ns ws : Value) (td : Bool) (ts : Value) : Prop where
  set : wr.rowIs w.heap.size 68 7 (setC (.slice (some ⟨w.heap.size + 1, 0, none⟩) n n) ns ws td ts (.slice none 0 0))
  mem : wr.rowIs (w.heap.size + 1) 77 (n * 5) (strF 5 (memG M) memZ n)
  b : Below w.heap.size w wr

variable {w wr : World} {n : Nat} {M : Mems} {ns ws : Value} {td : Bool} {ts : Value}

theorem NS.alloc (h : NS w wr n M ns ws td ts) (o : Obj) : NS w (wr.alloc o) n M ns ws td ts := ⟨h.set.alloc o, h.mem.alloc o, h.b.alloc h.b.size o⟩
theorem NS.drew (h : NS w wr n M ns ws td ts) : NS w wr.drew n M ns ws td ts := ⟨h.set, h.mem, h.b.drew⟩
theorem NS.other (h : NS w wr n M ns ws td ts) {a : Addr} (ha : w.heap.size + 1 < a.block) (v : Value) : NS w (wr.setCell a v) n M ns ws td ts :=
  ⟨h.set.setOther (by omega) v, h.mem.setOther (by omega) v, h.b.setCell (by omega) v⟩
theorem NS.field (h : NS w wr n M ns ws td ts) (j : Nat) (v : Value) {ns' ws' : Value} {td' : Bool} {ts' : Value}
    (e : ∀ i, i < 7 → (if i = j then v else setC (.slice (some ⟨w.heap.size + 1, 0, none⟩) n n) ns ws td ts (.slice none 0 0) i) = setC (.slice (some ⟨w.heap.size + 1, 0, none⟩) n n) ns' ws' td' ts' (.slice none 0 0) i) :
    NS w (wr.setCell ⟨w.heap.size, j, none⟩ v) n M ns' ws' td' ts' :=
  ⟨(h.set.set j v).congr e, h.mem.setOther (by show w.heap.size + 1 ≠ w.heap.size; omega) v, h.b.setCell (Nat.le_refl _) v⟩

theorem set_field1 {ms ns ws : Value} {td : Bool} {ts bs v : Value} : ∀ i, i < 7 → (if i = 1 then v else setC ms ns ws td ts bs i) = setC ms v ws td ts bs i := by
  intro i _; unfold setC; split
  · subst_vars; rfl
  · rfl
theorem set_field2 {ms ns ws : Value} {td : Bool} {ts bs v : Value} : ∀ i, i < 7 → (if i = 2 then v else setC ms ns ws td ts bs i) = setC ms ns v td ts bs i := by
  intro i _; unfold setC; split
  · subst_vars; rfl
  · rfl
theorem set_field4 {ms ns ws : Value} {td td' : Bool} {ts bs : Value} : ∀ i, i < 7 → (if i = 4 then Value.bool td' else setC ms ns ws td ts bs i) = setC ms ns ws td' ts bs i := by
  intro i _; unfold setC; split
  · subst_vars; rfl
  · rfl
theorem set_field5 {ms ns ws : Value} {td : Bool} {ts bs v : Value} : ∀ i, i < 7 → (if i = 5 then v else setC ms ns ws td ts bs i) = setC ms ns ws td v bs i := by
  intro i _; unfold setC; split
  · subst_vars; rfl
  · rfl
theorem set_field6 {ms ns ws : Value} {td : Bool} {ts bs v : Value} : ∀ i, i < 7 → (if i = 6 then v else setC ms ns ws td ts bs i) = setC ms ns ws td ts v i := by
  intro i hi; unfold setC; split
  · subst_vars; rfl
  · have : i = 0 ∨ i = 1 ∨ i = 2 ∨ i = 3 ∨ i = 4 ∨ i = 5 := by omega
    rcases this with h | h | h | h | h | h <;> subst h <;> rfl

end Go.Proofs.Qxb6600905aMods
