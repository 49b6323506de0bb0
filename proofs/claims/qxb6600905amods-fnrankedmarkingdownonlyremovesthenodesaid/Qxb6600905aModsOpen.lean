/-
  Members and rows of integers that came in, opened.
-/
import Derived.Test.Qxb6600905aModsBase
import Derived.Deep.Slices
import Derived.OpenShut
import Derived.ChangeOld
import Derived.SliceStrings
namespace Go.Proofs.Qxb6600905aMods
open Go.ChangeShapes Go.WideShapes Go.RowKit

variable {H : Type} {enc : TypeId × Value → H} {P : Program} {w : World} {base : Nat} {spare : Nat → Bool} {held : Bool}

theorem trod_float {t : TypeId} {fuel : Nat} {cs : List Value} {x : DataW H × List MemPlace} {k : FloatKind} (ht : P.underlying t = some (.float k)) (h : DataW.trod enc P w base spare held fuel t cs = some x) : ∃ n, cs = [.float k n] := by
  cases fuel with
  | zero => simp [DataW.trod] at h
  | succ n =>
    unfold DataW.trod at h
    rw [ht] at h
    split at h <;> simp_all

/-- A member's cells. -/
def memCs (s : ByteArray) (nm : Int) (wt : Nat) (sl : Int) (dn : Bool) : List Value := [.string s, .int .u64 nm, .float .f64 wt, .int .i64 sl, .bool dn]

theorem open_mem {fuel : Nat} {cs : List Value} {x : DataW H × List MemPlace} (h : DataW.trod enc Trym.prog w base spare held fuel 47 cs = some x) :
    ∃ s nm wt sl dn, cs = memCs s nm wt sl dn ∧ s.size ≤ maxLen ∧ (Lit.int .u64 nm).wf = true ∧ (Lit.int .i64 sl).wf = true := by
  obtain ⟨xs, n, _, rfl, hl, hlen, hf⟩ := DataW.trod_struct Trym.underlying47 h
  rw [show Trym.prog.cellsOf 47 = 5 by kernel_rfl] at hl
  match xs, hlen with
  | [y0, y1, y2, y3, y4], _ =>
    match cs, hl with
    | [c0, c1, c2, c3, c4], _ =>
      have g0 := hf 0 _ rfl
      have g1 := hf 1 _ rfl
      have g2 := hf 2 _ rfl
      have g3 := hf 3 _ rfl
      have g4 := hf 4 _ rfl
      rw [show Trym.prog.cellsOf _ = 1 by kernel_rfl] at g0 g1 g2 g3 g4
      obtain ⟨s, e0, _, hs⟩ := DataW.trod_string Trym.underlying9 g0
      obtain ⟨nm, e1, _, hn⟩ := DataW.trod_int Trym.underlying22 g1
      obtain ⟨wt, e2⟩ := trod_float Trym.underlying45 g2
      obtain ⟨sl, e3, _, hsl⟩ := DataW.trod_int Trym.underlying3 g3
      obtain ⟨dn, e4, _⟩ := DataW.trod_bool Trym.underlying4 g4
      simp at e0 e1 e2 e3 e4
      exact ⟨s, nm, wt, sl, dn, by rw [e0, e1, e2, e3, e4]; rfl, hs, hn, hsl⟩

instance : Inhabited Mems := ⟨⟨fun _ => ByteArray.empty, fun _ => 0, fun _ => 0, fun _ => 0, fun _ => false⟩⟩

theorem maxLen_eq : maxLen = 9223372036854775807 := by decide

/-- What the walks are told of the members that came in. -/
def Told (w : World) (a : Option Addr) (n : Nat) : Prop := ∃ b off M, IsMems w a n b off M ∧ MemsOk n M ∧ n ≤ 9223372036854775807

theorem open_mems {fuel : Nat} {a : Option Addr} {n cap : Nat} {x : DataW H × List MemPlace} (h : DataW.trod enc Trym.prog w base spare held fuel 28 [.slice a n cap] = some x) : Told w a n := by
  rcases Deep.open_slice Trym.underlying28 h with ⟨hcs, _⟩ | ⟨a', len, cap', m, k, D, Pl, hcs, _, hl, hm, hm', _, hel⟩
  · simp only [List.cons.injEq, Value.slice.injEq, and_true] at hcs
    obtain ⟨rfl, rfl, rfl⟩ := hcs
    exact ⟨0, 0, default, ⟨.inl rfl, fun h => by omega, fun i hi => by omega, fun i hi => by omega, fun i hi => by omega, fun i hi => by omega, fun i hi => by omega⟩,
      ⟨fun i hi => by omega, fun i hi => by omega, fun i hi => by omega⟩, by omega⟩
  · simp only [List.cons.injEq, Value.slice.injEq, and_true] at hcs
    obtain ⟨rfl, rfl, rfl⟩ := hcs
    rw [show Trym.prog.cellsOf 47 = 5 by kernel_rfl] at hel
    have hnm : n ≤ m := by rw [hm']; split <;> omega
    have hall : ∀ i, i < n → ∃ c : ByteArray × Int × Nat × Int × Bool, (∀ j, j < 5 → w.cell? ((a'.add (i * 5)).add j) = (memCs c.1 c.2.1 c.2.2.1 c.2.2.2.1 c.2.2.2.2)[j]?) ∧ c.1.size ≤ maxLen ∧ (Lit.int .u64 c.2.1).wf = true ∧ (Lit.int .i64 c.2.2.2.1).wf = true := by
      intro i hi
      obtain ⟨cs', h1, h2⟩ := hel i (by omega)
      obtain ⟨s, nm, wt, sl, dn, rfl, q1, q2, q3⟩ := open_mem h2
      obtain ⟨_, _, hc⟩ := World.cells?_some h1
      exact ⟨(s, nm, wt, sl, dn), hc, q1, q2, q3⟩
    obtain ⟨f, hf⟩ := Deep.choose_lt hall
    obtain ⟨b, off, spot⟩ := a'
    by_cases hp : 0 < n
    · have hspot : spot = none := by
        have := (hf 0 hp).1 0 (by omega)
        have := World.cell?_spot this
        simpa [Addr.add] using this
      subst hspot
      have hc : ∀ i, i < n → ∀ j, j < 5 → w.cell? ⟨b, off + i * 5 + j, none⟩ = (memCs (f i).1 (f i).2.1 (f i).2.2.1 (f i).2.2.2.1 (f i).2.2.2.2)[j]? := by
        intro i hi j hj
        have := (hf i hi).1 j hj
        rwa [Go.WideShapes.add_plain, Go.WideShapes.add_plain] at this
      refine ⟨b, off, ⟨fun i => (f i).1, fun i => (f i).2.1, fun i => (f i).2.2.1, fun i => (f i).2.2.2.1, fun i => (f i).2.2.2.2⟩,
        ⟨.inr rfl, fun _ => block_lt_of_cell (hc 0 hp 0 (by omega)), fun i hi => hc i hi 0 (by omega), fun i hi => hc i hi 1 (by omega), fun i hi => hc i hi 2 (by omega), fun i hi => hc i hi 3 (by omega), fun i hi => hc i hi 4 (by omega)⟩,
        ⟨fun i hi => by rw [← maxLen_eq]; exact (hf i hi).2.1, fun i hi => ?_, fun i hi => ?_⟩, by rw [← maxLen_eq]; omega⟩
      · have := (hf i hi).2.2.1
        simp [Lit.wf] at this
        exact this
      · have := (hf i hi).2.2.2
        simp [Lit.wf] at this
        exact this
    · obtain rfl : n = 0 := by omega
      exact ⟨0, 0, default, ⟨.inl rfl, fun h => by omega, fun i hi => by omega, fun i hi => by omega, fun i hi => by omega, fun i hi => by omega, fun i hi => by omega⟩,
        ⟨fun i hi => by omega, fun i hi => by omega, fun i hi => by omega⟩, by omega⟩

/-- What the walks are told of a row of integers that came in. -/
def ToldRow (w : World) (k : IntKind) (a : Option Addr) (n : Nat) : Prop := ∃ b off F, IsRow w k a n b off F ∧ n ≤ 9223372036854775807

theorem row_none (w : World) (k : IntKind) (a : Option Addr) : ToldRow w k a 0 := ⟨0, 0, fun _ => 0, ⟨.inl rfl, fun h => by omega, fun i hi => by omega⟩, by omega⟩

theorem row_some {w : World} {k : IntKind} {a : Addr} {n cap : Nat} {zs : List Int} (hl : n ≤ cap) (hm : cap ≤ maxLen) (hz : zs.length = cap) (h : ∀ i, i < zs.length → w.cell? (a.add i) = some (.int k (zs.getD i 0))) : ToldRow w k (some a) n := by
  by_cases hp : 0 < n
  · obtain ⟨b, off, spot⟩ := a
    have hspot : spot = none := by simpa [Addr.add] using World.cell?_spot (h 0 (by omega))
    subst hspot
    have hc : ∀ j, j < zs.length → w.cell? ⟨b, off + j, none⟩ = some (.int k (zs.getD j 0)) := fun j hj => by rw [← Go.WideShapes.add_plain]; exact h j hj
    exact ⟨b, off, fun i => zs.getD i 0, ⟨.inr rfl, fun _ => block_lt_of_cell (hc 0 (by omega)), fun i hi => hc i (by omega)⟩, by rw [← maxLen_eq]; omega⟩
  · obtain rfl : n = 0 := by omega
    exact row_none _ _ _

theorem open_row29 {fuel : Nat} {a : Option Addr} {n cap : Nat} {x : DataW H × List MemPlace} (h : DataW.trod enc Trym.prog w base (fun _ => true) held fuel 29 [.slice a n cap] = some x) : ToldRow w .i64 a n := by
  rcases open_ints Trym.underlying29 Trym.underlying3 (by kernel_rfl) h with ⟨hcs, _⟩ | ⟨y, l, c, zs, hcs, _, hl, hm, hz, _, hcell, hwz⟩
  · simp at hcs
    obtain ⟨rfl, rfl, rfl⟩ := hcs
    exact row_none _ _ _
  · simp at hcs
    obtain ⟨rfl, rfl, rfl⟩ := hcs
    exact row_some hl hm (by simpa using hz) hcell

theorem open_row23 {fuel : Nat} {a : Option Addr} {n cap : Nat} {x : DataW H × List MemPlace} (h : DataW.trod enc Trym.prog w base (fun _ => true) held fuel 23 [.slice a n cap] = some x) : ToldRow w .u64 a n := by
  rcases open_ints Trym.underlying23 Trym.underlying22 (by kernel_rfl) h with ⟨hcs, _⟩ | ⟨y, l, c, zs, hcs, _, hl, hm, hz, _, hcell, hwz⟩
  · simp at hcs
    obtain ⟨rfl, rfl, rfl⟩ := hcs
    exact row_none _ _ _
  · simp at hcs
    obtain ⟨rfl, rfl, rfl⟩ := hcs
    exact row_some hl hm (by simpa using hz) hcell
end Go.Proofs.Qxb6600905aMods
