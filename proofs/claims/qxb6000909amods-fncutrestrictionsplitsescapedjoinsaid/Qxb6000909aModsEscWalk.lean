import Derived.Test.Qxb6000909aModsCutWalk
import Derived.Lib.AppendStr
import Derived.Laws.BytesArg
namespace Go.Proofs.Qxb6000909aMods
open Go.RowKit

theorem info5 : (Trym.prog.info? 5).map (fun i => (i.zero, i.size, i.bytes)) = some (some (.int .u8 0), 1, 1) := by kernel_rfl

/-- Bytes as cells. -/
def byteCells (l : List UInt8) : List Value := l.map fun b => Value.int .u8 b.toNat

theorem byteCells_append (a b : List UInt8) : byteCells (a ++ b) = byteCells a ++ byteCells b := by simp [byteCells]
theorem byteCells_length (a : List UInt8) : (byteCells a).length = a.length := by simp [byteCells]

theorem take_snoc (s : ByteArray) (k : Nat) (h : k < s.size) : s.data.toList.take (k + 1) = s.data.toList.take k ++ [s[k]] := by
  rw [List.take_succ_eq_append_getElem (by simpa using h)]; rfl

theorem hid_mk {p : Prop} (h : p) : Hid p := h

theorem esc_two {s : ByteArray} {k : Nat} (h : k < s.size) (hc : s[k] = 92 ∨ s[k] = 38) :
    Cut.esc (s.data.toList.take (k + 1)) = Cut.esc (s.data.toList.take k) ++ [92, s[k]] := by
  rw [take_snoc s k h, Cut.esc_snoc, if_pos hc]

theorem esc_one {s : ByteArray} {k : Nat} (h : k < s.size) (h1 : s[k] ≠ 92) (h2 : s[k] ≠ 38) :
    Cut.esc (s.data.toList.take (k + 1)) = Cut.esc (s.data.toList.take k) ++ [s[k]] := by
  rw [take_snoc s k h, Cut.esc_snoc, if_neg (fun e => e.elim h1 h2)]

/-- A new block, then an append into the row at 'B'. -/
theorem two_grown {w wr w1 : World} {o : Obj} (h : Below w.heap.size w wr) (hg : (wr.alloc o).grownBy w1 (some w.heap.size)) : Below w.heap.size w w1 :=
  (h.alloc h.size o).grown hg (by have := h.size; simp; omega) (fun k hk => by cases hk; exact Nat.le_refl _)

theorem strOf_bytes (l : List UInt8) : (strOfNums (l.map fun b => (b.toNat : Int))).data.toList = l := by
  rw [strOfNums_data, List.map_map]
  induction l with
  | nil => rfl
  | cons c r ih => rw [List.map_cons, ih]; simp

/-- What string(buf) gives of a row that the call owns. -/
theorem conv_own {w : World} {base g n cap : Nat} {l : List UInt8} (h : w.ownsRow base 5 1 (.slice (some ⟨g, 0, none⟩) n cap) n (byteCells l)) :
    (convert 24 9 (.slice (some ⟨g, 0, none⟩) n cap)).run Trym.prog w = .ok (.string (strOfNums (l.map fun b => (b.toNat : Int)))) w := by
  refine run_convert_bytes_arg w 24 5 Trym.underlying24 Trym.underlying5 g 0 n cap _ ?_ ?_ 9 Trym.underlying9
  · have := h.1; rw [byteCells_length] at this; simp; omega
  · intro i hi
    have hl : l.length = n := by have := h.1; rw [byteCells_length] at this; omega
    have hc := h.cellAt i (by omega)
    rw [Nat.zero_add, hc]
    have hil : i < l.length := by omega
    simp [byteCells, List.getD, List.getElem?_eq_getElem hil]

set_option maxHeartbeats 400000 in
theorem esc_calls (s : ByteArray) (w : World) (hs : s.size ≤ 1048576) :
    Calls Trym.prog 9 #[.string s] w fun e w' => ∃ r : ByteArray, e = .returned (.string r) ∧ r.data.toList = Cut.esc s.data.toList ∧ Below w.heap.size w w' := by
  obtain ⟨i0, hi, hz0, hz1, hz2⟩ := info_parts info5
  go_enter Trym.func9, Trym.ntmps9
  go_wp2_with (at_make; refine wpList_make_own _ rfl _ _ 24 rfl w.heap.size 5 i0 (.int .u8 0) 1 Trym.underlying24 hi hz0 hz1 _ _ _ (2 * s.size) rfl rfl (by omega) ?b2 ?b3 (Nat.le_refl _) ?_)
  case b2 => rw [hz2]; omega
  case b3 => unfold maxLen; omega
  intro w0 hown0 hgrow0
  go_wp2
  go_loopw [3, 4] (fun v i wr => ∃ (k n : Nat), k ≤ s.size ∧ i = .int .i64 k ∧ n = (Cut.esc (s.data.toList.take k)).length ∧ v = .slice (some ⟨w.heap.size, 0, none⟩) n (2 * s.size) ∧
      wr.ownsRow w.heap.size 5 1 (.slice (some ⟨w.heap.size, 0, none⟩) n (2 * s.size)) n (byteCells (Cut.esc (s.data.toList.take k))) ∧ Below w.heap.size w wr)
    (fun _ i _ => s.size - (intOf i).toNat)
  case atStart => exact ⟨0, 0, Nat.zero_le _, rfl, rfl, rfl, hown0, (Below.refl _ _).grown hgrow0 (Nat.le_refl _) (fun k h => by cases h)⟩
  case round =>
    obtain ⟨k, n, hk, rfl, hn, rfl, hown, hbl⟩ := hrel
    have hn2 : n ≤ 2 * k := by rw [hn]; exact Nat.le_trans (Cut.esc_length _) (by simp; omega)
    have HN : Hid (n = (Cut.esc (s.data.toList.take k)).length) := hn
    clear hn hown0 hgrow0
    by_cases hlt : k < s.size
    · have HT : Hid (s.data.toList.take (k + 1) = s.data.toList.take k ++ [s[k]]) := take_snoc s k hlt
      by_cases h92 : ((s[k].toNat : Int) == 92) = true
      · have HE := hid_mk (esc_two (s := s) hlt (Or.inl (byte_eq (n := 92) (by omega) h92)))
        go_wp2_with (first
          | (at_builtin; refine wpList_append_fits _ rfl (.tmp 25) (.tmp 26) 24 rfl w.heap.size 5 i0 1 Trym.underlying24 hi hz1 w.heap.size n (2 * s.size) _ rfl (hown.alloc _) ⟨wr.heap.size, 0, none⟩ 1 1 [.int .u8 92] rfl rfl (cell_one_new _ _ _) (by intro u hu; simp at hu; subst hu; rfl) (by omega) ?_; intro w1 hown1 hgrow1)
          | (at_builtin; refine wpList_append_fits _ rfl (.tmp 28) (.tmp 30) 24 rfl w.heap.size 5 i0 1 Trym.underlying24 hi hz1 w.heap.size (n + 1) (2 * s.size) _ rfl (hown1.alloc _) ⟨w1.heap.size, 0, none⟩ 1 1 [.int .u8 s[k].toNat] rfl rfl (cell_one_new _ _ _) (by intro u hu; simp at hu; subst hu; rfl) (by omega) ?_; intro w2 hown2 hgrow2))
        go_roundw
        case rel =>
          rw [List.append_assoc] at hown2
          exact ⟨k + 1, n + 1 + 1, by omega, by go_num, by rw [HE.out, HN.out]; simp, rfl, by rw [HE.out, byteCells_append]; exact hown2, two_grown (two_grown hbl hgrow1) hgrow2⟩
        case measure => simp [intOf]; omega
      · have h92' : ((s[k].toNat : Int) == 92) = false := by simpa using h92
        by_cases h38 : ((s[k].toNat : Int) == 38) = true
        · have HE := hid_mk (esc_two (s := s) hlt (Or.inr (byte_eq (n := 38) (by omega) h38)))
          go_wp2_with (first
            | (at_builtin; refine wpList_append_fits _ rfl (.tmp 25) (.tmp 26) 24 rfl w.heap.size 5 i0 1 Trym.underlying24 hi hz1 w.heap.size n (2 * s.size) _ rfl (hown.alloc _) ⟨wr.heap.size, 0, none⟩ 1 1 [.int .u8 92] rfl rfl (cell_one_new _ _ _) (by intro u hu; simp at hu; subst hu; rfl) (by omega) ?_; intro w1 hown1 hgrow1)
            | (at_builtin; refine wpList_append_fits _ rfl (.tmp 28) (.tmp 30) 24 rfl w.heap.size 5 i0 1 Trym.underlying24 hi hz1 w.heap.size (n + 1) (2 * s.size) _ rfl (hown1.alloc _) ⟨w1.heap.size, 0, none⟩ 1 1 [.int .u8 s[k].toNat] rfl rfl (cell_one_new _ _ _) (by intro u hu; simp at hu; subst hu; rfl) (by omega) ?_; intro w2 hown2 hgrow2))
          go_roundw
          case rel =>
            rw [List.append_assoc] at hown2
            exact ⟨k + 1, n + 1 + 1, by omega, by go_num, by rw [HE.out, HN.out]; simp, rfl, by rw [HE.out, byteCells_append]; exact hown2, two_grown (two_grown hbl hgrow1) hgrow2⟩
          case measure => simp [intOf]; omega
        · have h38' : ((s[k].toNat : Int) == 38) = false := by simpa using h38
          have HE := hid_mk (esc_one (s := s) hlt (byte_ne (n := 92) (by omega) h92') (byte_ne (n := 38) (by omega) h38'))
          go_wp2_with (first
            | (at_builtin; refine wpList_append_fits _ rfl (.tmp 28) (.tmp 30) 24 rfl w.heap.size 5 i0 1 Trym.underlying24 hi hz1 w.heap.size n (2 * s.size) _ rfl (hown.alloc _) ⟨wr.heap.size, 0, none⟩ 1 1 [.int .u8 s[k].toNat] rfl rfl (cell_one_new _ _ _) (by intro u hu; simp at hu; subst hu; rfl) (by omega) ?_; intro w2 hown2 hgrow2))
          go_roundw
          case rel =>
            exact ⟨k + 1, n + 1, by omega, by go_num, by rw [HE.out, HN.out]; simp, rfl, by rw [HE.out, byteCells_append]; exact hown2, two_grown hbl hgrow2⟩
          case measure => simp [intOf]; omega
    · have hk' : k = s.size := by omega
      subst hk'
      have HL : Hid (s.data.toList.take s.size = s.data.toList) := by show _ = _; rw [List.take_of_length_le (by simp)]
      rw [HL.out] at hown HN
      have hcv := conv_own hown
      clear hown
      go_wp2
      go_ret
      exact ⟨_, rfl, strOf_bytes _, hbl⟩
end Go.Proofs.Qxb6000909aMods
