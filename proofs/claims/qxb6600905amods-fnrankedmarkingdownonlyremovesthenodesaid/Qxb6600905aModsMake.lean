/-
  'make' at the element types of the roads, and rows of structs.
-/
import Derived.Test.Qxb6600905aModsBase
namespace Go.Proofs.Qxb6600905aMods
open Go.RowKit

/-- 'make([]T, n)' at a slice type 't' of elements 'e' of 'size' cells. -/
structure Makes (t e size : Nat) (zv : Nat → Value) (Z : Nat → Array Value) : Prop where
  run : ∀ (n : Nat) (W : World), n ≤ 1048576 → (Instr.makeSlice t (.int .i64 (n : Int)) (.int .i64 (n : Int))).run Trym.prog W = .ok (.slice (some ⟨W.heap.size, 0, none⟩) n n) (W.alloc (.cells (Z n) e))
  len : ∀ n, (Z n).size = n * size
  val : ∀ n c, c < n * size → (Z n)[c]? = some (zv (c % size))

theorem makes_of {t e size bytes : Nat} {z : Value} {zv : Nat → Value} (ht : Trym.prog.underlying t = some (.slice e)) (hinfo : (Trym.prog.info? e).map (fun i => (i.zero, i.size, i.bytes)) = some (some z, size, bytes))
    (hb : bytes ≤ 1048576) (hs : z.cells.size = size) (hz : ∀ j, j < size → z.cells[j]! = zv j) : ∃ Z, Makes t e size zv Z := by
  refine ⟨fun n => madeCells z.cells (n * size), ?_, ?_, ?_⟩
  · intro n W hn
    obtain ⟨i, hi, hzz⟩ := Option.map_eq_some_iff.1 hinfo
    simp only [Prod.mk.injEq] at hzz
    obtain ⟨h1, h2, h3⟩ := hzz
    have hb' : ((i.bytes : Nat) : Int) * (n : Int) ≤ 281474976710656 := by
      have hm : bytes * n ≤ 1048576 * 1048576 := Nat.mul_le_mul hb hn
      rw [h3, ← Int.natCast_mul]; omega
    have hr := run_make (P := Trym.prog) W t e i z ht hi h1 .i64 .i64 n n (by omega) (Int.le_refl _) hb' (by omega)
    simp only [Int.toNat_natCast, h2] at hr
    exact hr
  · intro n; exact size_madeCells _ _
  · intro n c hc
    have hp : 0 < size := by
      rcases Nat.eq_zero_or_pos size with h | h
      · rw [h, Nat.mul_zero] at hc; omega
      · exact h
    show (madeCells z.cells (n * size))[c]? = _
    unfold madeCells
    rw [Array.getElem?_map, Array.getElem?_range, if_pos hc, Option.map_some, hs, hz _ (Nat.mod_lt _ hp)]

theorem Makes.row {t e size : Nat} {zv : Nat → Value} {Z : Nat → Array Value} (h : Makes t e size zv Z) (W : World) (n : Nat) : (W.alloc (.cells (Z n) e)).rowIs W.heap.size e (n * size) (fun c => zv (c % size)) := by
  have := World.rowIs_alloc W (Z n) e (fun c => zv (c % size)) (fun c hc => h.val n c (by rw [h.len] at hc; exact hc))
  rw [h.len] at this
  exact this

theorem Makes.row1 {t e : Nat} {zv : Nat → Value} {Z : Nat → Array Value} (h : Makes t e 1 zv Z) (W : World) (n : Nat) : (W.alloc (.cells (Z n) e)).rowIs W.heap.size e n (fun _ => zv 0) := by
  have := h.row W n
  rw [Nat.mul_one] at this
  exact this.congr (fun c _ => by rw [Nat.mod_one])

theorem made38 : ∃ Z, Makes 38 9 1 (fun _ => .string ByteArray.empty) Z :=
  makes_of (z := .string ByteArray.empty) (bytes := 16) Trym.underlying38 (by kernel_rfl) (by decide) rfl (fun j hj => by have : j = 0 := by omega
                                                                                                                          subst this; rfl)
theorem made23 : ∃ Z, Makes 23 22 1 (fun _ => .int .u64 0) Z :=
  makes_of (z := .int .u64 0) (bytes := 8) Trym.underlying23 (by kernel_rfl) (by decide) rfl (fun j hj => by have : j = 0 := by omega
                                                                                                             subst this; rfl)
theorem made41 : ∃ Z, Makes 41 45 1 (fun _ => .float .f64 0) Z :=
  makes_of (z := .float .f64 0) (bytes := 8) Trym.underlying41 (by kernel_rfl) (by decide) rfl (fun j hj => by have : j = 0 := by omega
                                                                                                               subst this; rfl)
theorem made29 : ∃ Z, Makes 29 3 1 (fun _ => .int .i64 0) Z :=
  makes_of (z := .int .i64 0) (bytes := 8) Trym.underlying29 (by kernel_rfl) (by decide) rfl (fun j hj => by have : j = 0 := by omega
                                                                                                             subst this; rfl)
theorem made60 : ∃ Z, Makes 60 4 1 (fun _ => .bool false) Z :=
  makes_of (z := .bool false) (bytes := 1) Trym.underlying60 (by kernel_rfl) (by decide) rfl (fun j hj => by have : j = 0 := by omega
                                                                                                             subst this; rfl)
theorem made61 : ∃ Z, Makes 61 23 1 (fun _ => .slice none 0 0) Z :=
  makes_of (z := .slice none 0 0) (bytes := 24) Trym.underlying61 (by kernel_rfl) (by decide) rfl (fun j hj => by have : j = 0 := by omega
                                                                                                                  subst this; rfl)

/-- A node's cells. -/
def nodeC (id : ByteArray) (nm : Int) (j : Nat) : Value := if j = 0 then .string id else .int .u64 nm
/-- A member's cells. -/
def memC (id : ByteArray) (nm : Int) (wt : Nat) (slot : Int) (down : Bool) (j : Nat) : Value :=
  if j = 0 then .string id else if j = 1 then .int .u64 nm else if j = 2 then .float .f64 wt else if j = 3 then .int .i64 slot else .bool down
/-- A tier's cells. -/
def tierC (f : Int) (vm live : Value) (j : Nat) : Value := if j = 0 then .int .i64 f else if j = 1 then vm else live

theorem made64 : ∃ Z, Makes 64 77 5 (memC ByteArray.empty 0 0 0 false) Z :=
  makes_of (z := .agg #[.string ByteArray.empty, .int .u64 0, .float .f64 0, .int .i64 0, .bool false]) (bytes := 48) Trym.underlying64 (by kernel_rfl) (by decide) rfl
    (fun j hj => by
      match j, hj with
      | 0, _ => rfl
      | 1, _ => rfl
      | 2, _ => rfl
      | 3, _ => rfl
      | 4, _ => rfl)
theorem made65 : ∃ Z, Makes 65 70 2 (nodeC ByteArray.empty 0) Z :=
  makes_of (z := .agg #[.string ByteArray.empty, .int .u64 0]) (bytes := 24) Trym.underlying65 (by kernel_rfl) (by decide) rfl
    (fun j hj => by
      match j, hj with
      | 0, _ => rfl
      | 1, _ => rfl)
theorem made66 : ∃ Z, Makes 66 79 3 (tierC 0 (.slice none 0 0) (.slice none 0 0)) Z :=
  makes_of (z := .agg #[.int .i64 0, .slice none 0 0, .slice none 0 0]) (bytes := 56) Trym.underlying66 (by kernel_rfl) (by decide) rfl
    (fun j hj => by
      match j, hj with
      | 0, _ => rfl
      | 1, _ => rfl
      | 2, _ => rfl)
end Go.Proofs.Qxb6600905aMods
