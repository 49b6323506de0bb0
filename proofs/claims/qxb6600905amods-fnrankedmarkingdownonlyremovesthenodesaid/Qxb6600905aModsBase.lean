/-
  What the walks of the seat share: how members and rows of integers lie in memory.
-/
import Derived.Test.Qxb6600905aModsRows
import Derived.Test.Qxb6600905aModsPlain
import Derived.WalkKit
import Derived.WalkSpells
import Derived.WalkLawsBesides
import Derived.Deep.OwnRows
namespace Go.Proofs.Qxb6600905aMods
open Go.RowKit

theorem hid_mk {p : Prop} (h : p) : Hid p := h

/-- The members, by their index. -/
structure Mems where
  id : Nat → ByteArray
  nm : Nat → Int
  wt : Nat → Nat
  slot : Nat → Int
  down : Nat → Bool

/-- Members that came in: 'n' of them, from cell 'off' of block 'b' on. -/
structure IsMems (w : World) (a : Option Addr) (n b off : Nat) (M : Mems) : Prop where
  ad : n = 0 ∨ a = some ⟨b, off, none⟩
  lt : 0 < n → b < w.heap.size
  id : ∀ i, i < n → w.cell? ⟨b, off + i * 5, none⟩ = some (.string (M.id i))
  nm : ∀ i, i < n → w.cell? ⟨b, off + i * 5 + 1, none⟩ = some (.int .u64 (M.nm i))
  wt : ∀ i, i < n → w.cell? ⟨b, off + i * 5 + 2, none⟩ = some (.float .f64 (M.wt i))
  slot : ∀ i, i < n → w.cell? ⟨b, off + i * 5 + 3, none⟩ = some (.int .i64 (M.slot i))
  down : ∀ i, i < n → w.cell? ⟨b, off + i * 5 + 4, none⟩ = some (.bool (M.down i))

theorem IsMems.at_ {w : World} {a : Option Addr} {n b off : Nat} {M : Mems} (h : IsMems w a n b off M) {k : Nat} (hk : k < n) : a = some ⟨b, off, none⟩ := by
  rcases h.ad with h | h
  · omega
  · exact h

theorem IsMems.below {w w' : World} {a : Option Addr} {n b off : Nat} {M : Mems} (h : IsMems w a n b off M) (hb : Below w.heap.size w w') : IsMems w' a n b off M :=
  ⟨h.ad, fun hn => Nat.lt_of_lt_of_le (h.lt hn) hb.size,
    fun i hi => (hb.cell (p := ⟨b, off + i * 5, none⟩) (h.lt (by omega))).trans (h.id i hi),
    fun i hi => (hb.cell (p := ⟨b, off + i * 5 + 1, none⟩) (h.lt (by omega))).trans (h.nm i hi),
    fun i hi => (hb.cell (p := ⟨b, off + i * 5 + 2, none⟩) (h.lt (by omega))).trans (h.wt i hi),
    fun i hi => (hb.cell (p := ⟨b, off + i * 5 + 3, none⟩) (h.lt (by omega))).trans (h.slot i hi),
    fun i hi => (hb.cell (p := ⟨b, off + i * 5 + 4, none⟩) (h.lt (by omega))).trans (h.down i hi)⟩

/-- What is known of the members' own values. -/
structure MemsOk (n : Nat) (M : Mems) : Prop where
  id : ∀ i, i < n → (M.id i).size ≤ 9223372036854775807
  nm : ∀ i, i < n → 0 ≤ M.nm i ∧ M.nm i ≤ 18446744073709551615
  slot : ∀ i, i < n → -9223372036854775808 ≤ M.slot i ∧ M.slot i ≤ 9223372036854775807

/-- A slice of integers that came in. -/
structure IsRow (w : World) (q : IntKind) (a : Option Addr) (n b off : Nat) (F : Nat → Int) : Prop where
  ad : n = 0 ∨ a = some ⟨b, off, none⟩
  lt : 0 < n → b < w.heap.size
  cell : ∀ i, i < n → w.cell? ⟨b, off + i, none⟩ = some (.int q (F i))

theorem IsRow.at_ {w : World} {q : IntKind} {a : Option Addr} {n b off : Nat} {F : Nat → Int} (h : IsRow w q a n b off F) {k : Nat} (hk : k < n) : a = some ⟨b, off, none⟩ := by
  rcases h.ad with h | h
  · omega
  · exact h

theorem IsRow.below {w w' : World} {q : IntKind} {a : Option Addr} {n b off : Nat} {F : Nat → Int} (h : IsRow w q a n b off F) (hb : Below w.heap.size w w') : IsRow w' q a n b off F :=
  ⟨h.ad, fun hn => Nat.lt_of_lt_of_le (h.lt hn) hb.size, fun i hi => (hb.cell (p := ⟨b, off + i, none⟩) (h.lt (by omega))).trans (h.cell i hi)⟩

/-- What digestAt answers. -/
def dig (nd : Nat) (D : Nat → Int) (k : Nat) : Int := if nd = 0 then 0 else D (k % nd)

/-- The version-1 score, as the walk writes it. -/
def sc (km m : Int) : Int := IntKind.u64.wrap (bits .xor .u64 km m * 2685821657736338717)

end Go.Proofs.Qxb6600905aMods
