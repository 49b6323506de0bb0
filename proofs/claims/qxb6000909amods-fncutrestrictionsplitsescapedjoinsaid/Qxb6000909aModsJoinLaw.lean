import Derived.Test.Qxb6000909aModsJoinRows
import Derived.Test.Qxb6000909aModsCutBelow
namespace Go.Proofs.Qxb6000909aMods
open Go.RowKit

theorem ite_string (c : Prop) [Decidable c] (a b : ByteArray) : (if c then Value.string a else Value.string b) = Value.string (if c then a else b) := by split <;> rfl

theorem sum_succ (S : Nat → ByteArray) (k : Nat) : Cut.sumLen (fun i => (S i).data.toList) (k + 1) = Cut.sumLen (fun i => (S i).data.toList) k + (S k).size := by
  show _ + ((S k).data.toList).length = _
  simp

theorem copy_step (S : Nat → ByteArray) (k : Nat) {len : Nat} : ∀ i, i < len → (if i = k then Value.string (S k) else Value.string (if i < k then S i else ByteArray.empty)) = Value.string (if i < k + 1 then S i else ByteArray.empty) := by
  intro i _
  by_cases h : i = k
  · subst h; simp
  · rw [if_neg h]
    by_cases h2 : i < k
    · rw [if_pos h2, if_pos (by omega)]
    · rw [if_neg h2, if_neg (by omega)]

theorem esc_calls' (s : ByteArray) (w : World) (hs : s.size ≤ 1048576) :
    Calls Trym.prog 9 #[.string s] w fun e w' => e = .returned (.string (escS s)) ∧ Below w.heap.size w w' :=
  (esc_calls s w hs).mono (fun e w' ⟨r, h1, h2, h3⟩ => ⟨by rw [h1, bytes_ext (h2.trans (escS_data s).symm)], h3⟩)

theorem three_start {w wr w2 : World} {len m : Nat} {f : Nat → Value} {S : Nat → ByteArray} (hrow : wr.rowIs w.heap.size 9 len f) (hbl : Below w.heap.size w wr)
    (hown : w2.ownsRow (wr.heap.size + 1) 5 1 (.slice (some ⟨wr.heap.size + 1, 0, none⟩) 0 (2 * m)) 0 [])
    (hgrow : (wr.alloc (.cells (madeCells #[Value.string ByteArray.empty] len) 9)).grownBy w2 none) :
    Three w w2 w.heap.size wr.heap.size (wr.heap.size + 1) len (2 * m) f (fun i => .string (if i < 0 then escS (S i) else ByteArray.empty)) [] := by
  have hlt := hrow.lt
  refine ⟨Nat.le_refl _, hlt, Nat.lt_succ_self _, (hrow.alloc _).of_block (hgrow.block _ (by simp; omega) (by simp)), ?_, hown, (hbl.alloc hbl.size _).grown hgrow (by have := hbl.size; simp; omega) (fun k hk => by cases hk)⟩
  exact ((World.rowIs_made wr (.string ByteArray.empty) len 9).of_block (hgrow.block _ (by simp) (by simp))).congr (fun i _ => by simp)

theorem join_bound (S : Nat → ByteArray) {k len m : Nat} (hm : m = 16 * len + Cut.sumLen (fun i => (S i).data.toList) len) (hlt : k < len) :
    (S k).size ≤ m ∧ (Cut.joinTo (fun i => (S i).data.toList) k).length + 1 + (escS (S k)).size ≤ 2 * m := by
  have h1 := Cut.joinTo_length (fun i => (S i).data.toList) k
  have h2 := Cut.sumLen_le (fun i => (S i).data.toList) (show k + 1 ≤ len from hlt)
  rw [sum_succ] at h2
  have h3 := Cut.esc_length (S k).data.toList
  rw [escS_size]
  have h4 : (S k).data.toList.length = (S k).size := by simp
  omega

theorem join_step (S : Nat → ByteArray) (k : Nat) : Cut.joinTo (fun i => (S i).data.toList) (k + 1) = Cut.joinTo (fun i => (S i).data.toList) k ++ (if k = 0 then [] else [38]) ++ Cut.esc (S k).data.toList := rfl

theorem cell_new_set (w : World) (a : Addr) (v x : Value) (t : TypeId) : ∀ j u, [x][j]? = some u → ((w.setCell a v).alloc (.cells #[x] t)).cell? ((⟨w.heap.size, 0, none⟩ : Addr).add j) = some u := by
  have h := cell_one_new (w.setCell a v) x t
  have hs : (w.setCell a v).heap.size = w.heap.size := by simp [World.setCell]
  rw [hs] at h
  exact h

theorem join_first {w wr w5 : World} {C E J len cap : Nat} {f g : Nat → Value} {l : List UInt8} {s : ByteArray} (h : Three w wr C E J len cap f g l) (hg : wr.grownBy w5 (some J))
    (ho : w5.ownsRow J 5 1 (.slice (some ⟨J, 0, none⟩) (l.length + (escS s).size) cap) (l.length + (escS s).size) (byteCells l ++ Lib.strCells (escS s))) :
    Three w w5 C E J len cap f g (l ++ Cut.esc s.data.toList) :=
  h.grown (escS_size s).symm hg ho

theorem join_next {w wr w5 : World} {C E J len cap : Nat} {f g : Nat → Value} {l : List UInt8} {s : ByteArray} (h : Three w wr C E J len cap f g (l ++ [38])) (hg : wr.grownBy w5 (some J))
    (ho : w5.ownsRow J 5 1 (.slice (some ⟨J, 0, none⟩) (l.length + 1 + (escS s).size) cap) (l.length + 1 + (escS s).size) (byteCells l ++ [Value.int IntKind.u8 38] ++ Lib.strCells (escS s))) :
    Three w w5 C E J len cap f g (l ++ [38] ++ Cut.esc s.data.toList) := by
  refine h.grown (escS_size s).symm hg ?_
  rw [List.length_append, byteCells_append]
  exact ho

theorem text_size {S : Nat → ByteArray} {T : ByteArray} {l : List UInt8} {len m : Nat} (hT : T.data.toList = l) (hl : l = Cut.joinTo (fun i => (S i).data.toList) len)
    (hm : m = 16 * len + Cut.sumLen (fun i => (S i).data.toList) len) (hm2 : m ≤ 1048576) : T.size ≤ 4194304 := by
  have h1 := Cut.joinTo_length (fun i => (S i).data.toList) len
  have h2 : T.size = l.length := by rw [← hT]; simp
  rw [h2, hl]; omega

theorem row_here {w : World} {E len k : Nat} {T : Nat → ByteArray} (h : w.rowIs E 9 len (fun i => .string (if i < k + 1 then T i else ByteArray.empty))) (hlt : k < len) :
    w.cell? ⟨E, k, none⟩ = some (.string (T k)) := by
  have := h.cell hlt
  simpa using this

set_option maxRecDepth 100000 in
set_option maxHeartbeats 1000000 in
theorem join_calls (b off len cap : Nat) (S : Nat → ByteArray) (w : World) (hpos : 0 < len) (hlen : len ≤ maxLen) (hb : b < w.heap.size)
    (hcell : ∀ i, i < len → w.cell? ⟨b, off + i, none⟩ = some (.string (S i))) (hsz : ∀ i, i < len → (S i).size ≤ maxLen) :
    Calls Trym.prog 3 #[.slice (some ⟨b, off, none⟩) len cap] w fun e w' => e = .returned (.bool true) ∧ Below w.heap.size w w' := by
  obtain ⟨i0, hi, hz0, hz1, hz2⟩ := info_parts info5
  go_enter Trym.func3, Trym.ntmps3
  go_wp2_with fail
  refine (bytes_calls b off len cap S _ hlen hcell hsz).mono ?_
  rintro e w1 ⟨rfl | rfl, rfl⟩
  case inr =>
    clear hcell hsz
    go_wp2
    go_ret
    exact ⟨rfl, Below.refl _ _⟩
  unfold maxLen at hlen hsz
  by_cases hbig : len ≤ 4096
  case neg =>
    clear hcell hsz
    go_wp2
    go_ret
    exact ⟨rfl, Below.refl _ _⟩
  have hl0 : ((len : Int) == 0) = false := by simp; omega
  have hmk := fun (W : World) => run_make_row' (P := Trym.prog) 22 9 (.string ByteArray.empty) 16 Trym.underlying22 info9 rfl .i64 .i64 len (by omega) (by omega) W
  go_wp2
  go_loop [3, 4] (fun z i => ∃ k m : Nat, k ≤ len ∧ m ≤ 1048576 ∧ m = 16 * len + Cut.sumLen (fun i => (S i).data.toList) k ∧ i = .int .i64 k ∧ z = .int .i64 m) (fun _ i => len - (intOf i).toNat)
  case atStart => exact ⟨0, 16 * len, Nat.zero_le _, by omega, rfl, rfl, by go_num⟩
  case round =>
    obtain ⟨k, m, hk, hm, hms, rfl, rfl⟩ := hrel
    have HM := hid_mk hms
    clear hms
    by_cases hlt : k < len
    · have hc := hcell k hlt
      have hz := hsz k hlt
      clear hcell hsz hmk
      by_cases h1 : (S k).size ≤ 1048576
      · by_cases h2 : m + (S k).size ≤ 1048576
        · go_wp2
          go_round
          case rel => exact ⟨k + 1, m + (S k).size, by omega, h2, by rw [HM.out, sum_succ]; omega, by go_num, by go_num⟩
          case measure => simp [intOf]; omega
        · go_wp2
          go_ret
          exact ⟨rfl, Below.refl _ _⟩
      · go_wp2
        go_ret
        exact ⟨rfl, Below.refl _ _⟩
    · obtain rfl : len = k := by omega
      clear hlt hk hsz
      have HC : Hid (∀ i, i < len → w1.cell? ⟨b, off + i, none⟩ = some (.string (S i))) := hcell
      clear hcell
      go_wp2
      go_loopw [6] (fun i wr => ∃ k : Nat, k ≤ len ∧ i = .int .i64 k ∧ wr.rowIs w1.heap.size 9 len (fun i => .string (if i < k then S i else ByteArray.empty)) ∧ Below w1.heap.size w1 wr) (fun i _ => len - (intOf i).toNat)
      case atStart => exact ⟨0, Nat.zero_le _, rfl, by simpa using World.rowIs_made w1 (.string ByteArray.empty) len 9, (Below.refl _ _).alloc (Nat.le_refl _) _⟩
      case round =>
        obtain ⟨k, hk, rfl, hrow, hbl⟩ := hrel
        by_cases hlt : k < len
        · have hc := (hbl.cell (p := ⟨b, off + k, none⟩) hb).trans (HC.out k hlt)
          have hd := hrow.cell hlt
          have hfr := hrow.frozen k
          have hst := (hrow.set k (.string (S k))).congr (g := fun i => .string (if i < k + 1 then S i else ByteArray.empty)) (copy_step S k)
          have hbl' := hbl.setCell (p := ⟨w1.heap.size, k, none⟩) (Nat.le_refl _) (.string (S k))
          clear hmk hrow hbl
          go_wp2
          go_roundw
          case rel => exact ⟨k + 1, by omega, by go_num, hst, hbl'⟩
          case measure => simp [intOf]; omega
        · obtain rfl : len = k := by omega
          obtain ⟨wo, rfl⟩ : ∃ wo : World, wo = wr := ⟨_, rfl⟩
          have hrow' := hrow.congr (g := fun i => .string (S i)) (fun i h => by simp [h])
          clear hlt hk hrow HC
          have hms : len ≤ 1048576 := by omega
          have hmm := fun (W : World) => run_make_row' (P := Trym.prog) 22 9 (.string ByteArray.empty) 16 Trym.underlying22 info9 rfl .i64 .i64 len (by omega) (by omega) W
          go_wp2_with (at_make; refine wpList_make_own _ rfl _ _ 24 rfl (wo.heap.size + 1) 5 i0 (.int .u8 0) 1 Trym.underlying24 hi hz0 hz1 _ _ _ (2 * m) rfl rfl (by omega) (by rw [hz2]; omega) (by unfold maxLen; omega) (by simp) ?_)
          intro w2 hown2 hgrow2
          have h3 := three_start (S := S) hrow' hbl hown2 hgrow2
          clear hmm hmk hrow' hbl hown2 hgrow2
          have hCE := h3.hE
          go_wp2
          go_loopw [8, 9] (fun v i wx => ∃ (k : Nat) (l : List UInt8), k ≤ len ∧ i = .int .i64 k ∧ l = Cut.joinTo (fun i => (S i).data.toList) k ∧ v = .slice (some ⟨wo.heap.size + 1, 0, none⟩) l.length (2 * m) ∧
            Three w1 wx w1.heap.size wo.heap.size (wo.heap.size + 1) len (2 * m) (fun i => .string (S i)) (fun i => .string (if i < k then escS (S i) else ByteArray.empty)) l) (fun _ i _ => len - (intOf i).toNat)
          case atStart => exact ⟨0, [], Nat.zero_le _, rfl, rfl, rfl, h3⟩
          case round =>
            obtain ⟨k, l, hk, rfl, hl, rfl, h3'⟩ := hrel
            clear h3
            have HL := hid_mk hl
            have hlb := join_bound S (k := k) (len := len) (m := m) HM.out
            rw [← hl] at hlb
            clear hl
            by_cases hlt : k < len
            · obtain ⟨hsk, hroom⟩ := hlb hlt
              clear hlb
              have hc := h3'.c.cell hlt
              go_wp2_with fail
              refine (esc_calls' (S k) _ (by omega)).mono ?_
              rintro e w3 ⟨rfl, hbl3⟩
              have h4 := h3'.below hbl3
              have hd := h4.e.cell hlt
              have hfr := h4.e.frozen k
              have h5 := (h4.store k (.string (escS (S k)))).congr (g' := fun i => .string (if i < k + 1 then escS (S i) else ByteArray.empty)) (copy_step (fun i => escS (S i)) k)
              have hBJ : wo.heap.size + 1 ≤ w3.heap.size := Nat.le_of_lt (own_lt h4.j)
              have HX := hid_mk (join_step S k)
              clear h3' hbl3 h4 hc
              by_cases hk0 : k = 0
              · subst hk0
                have hl0' : l.length = 0 := by rw [HL.out]; rfl
                have HL0 := hid_mk hl0'
                clear hl0'
                go_wp2_with (first
                  | (at_builtin; refine wpList_append_fits_string _ rfl (.tmp 89) (.tmp 93) 24 9 rfl (wo.heap.size + 1) 5 i0 Trym.underlying24 Trym.underlying9 hi hz0 hz1 hz2 (wo.heap.size + 1) l.length (2 * m) _ rfl h5.j (escS (S 0)) rfl (by omega) (by omega) (by simpa using hBJ) ?_; intro w5 hown5 hgrow5))
                have h7 := join_first h5 hgrow5 hown5
                clear h5 hgrow5 hown5
                go_roundw
                case rel =>
                  refine ⟨1, l ++ Cut.esc (S 0).data.toList, by omega, by go_num, ?_, ?_, h7⟩
                  · rw [HX.out, HL.out]; simp
                  · rw [List.length_append, escS_size]
                case measure => simp [intOf]; omega
              · have hk1 : (0 : Int) < (k : Int) := by omega
                go_wp2_with (first
                  | (at_builtin; refine wpList_append_fits _ rfl (.tmp 86) (.tmp 87) 24 rfl (wo.heap.size + 1) 5 i0 1 Trym.underlying24 hi hz1 (wo.heap.size + 1) l.length (2 * m) _ rfl (h5.j.alloc _) ⟨w3.heap.size, 0, none⟩ 1 1 [.int .u8 38] rfl rfl (cell_new_set _ _ _ _ _) (by intro u hu; simp at hu; subst hu; rfl) (by omega) ?_; intro w4 hown4 hgrow4; have h6 := (h5.alloc _).grown (x := [38]) rfl hgrow4 hown4; have hc6 := row_here h6.e hlt)
                  | (at_builtin; refine wpList_append_fits_string _ rfl (.tmp 89) (.tmp 93) 24 9 rfl (wo.heap.size + 1) 5 i0 Trym.underlying24 Trym.underlying9 hi hz0 hz1 hz2 (wo.heap.size + 1) (l.length + 1) (2 * m) _ rfl hown4 (escS (S k)) rfl (by omega) (by omega) (by have := own_lt hown4; omega) ?_; intro w5 hown5 hgrow5))
                have h7 := join_next h6 hgrow5 hown5
                clear h5 h6 hgrow4 hown4 hgrow5 hown5 hc6
                go_roundw
                case rel =>
                  refine ⟨k + 1, l ++ [38] ++ Cut.esc (S k).data.toList, by omega, by go_num, ?_, ?_, h7⟩
                  · rw [HX.out, HL.out, if_neg hk0]
                  · rw [List.length_append, List.length_append, escS_size]; rfl
                case measure => simp [intOf]; omega
            · obtain rfl : len = k := by omega
              clear hlb hlt hk
              have hcv := conv_own h3'.j
              have HT := hid_mk (strOf_bytes l)
              generalize strOfNums (l.map fun b => (b.toNat : Int)) = T at hcv HT
              go_wp2
              go_loopw [10, 11] (fun v i wx => ∃ (k : Nat) (t : ByteArray), k ≤ len ∧ i = .int .i64 k ∧ v = .string t ∧ t.size ≤ 4194304 ∧ t.data.toList = Cut.rem (fun i => (S i).data.toList) len (len - k) ∧
                wx.rowIs wo.heap.size 9 len (fun i => .string (escS (S i))) ∧ Below w1.heap.size w1 wx) (fun _ i _ => len - (intOf i).toNat)
              case atStart => exact ⟨0, T, Nat.zero_le _, rfl, rfl, text_size HT.out HL.out HM.out hm, by rw [HT.out, HL.out]; exact Cut.joinTo_all _ _ hpos, h3'.e.congr (fun i h => by simp [h]), h3'.b⟩
              case round =>
                obtain ⟨k, t, hk, rfl, rfl, hts, ht, hrow, hbl⟩ := hrel
                have HTT := hid_mk ht
                clear ht h3' hcv
                by_cases hlt : k < len
                · go_wp2_with fail
                  refine (zzcut_below t (w1.heap.size) _ (by omega)).mono ?_
                  rintro e w3 ⟨r, t', rfl, hcut, hb3⟩
                  obtain ⟨e1, e2, e3⟩ := cut_round hlt HTT.out (escS_data (S k)) hcut
                  have hc := (hrow.of_block (hb3.block _ (by have := hrow.lt; omega))).cell hlt
                  have hrow' := hrow.of_block (hb3.block _ (by have := hrow.lt; omega))
                  have hbl' := hbl.trans (hb3.mono (by omega))
                  have HE2 := hid_mk e2
                  rw [e1]
                  clear e1 e2 hcut hrow hbl hb3
                  go_wp2
                  go_roundw
                  case rel => exact ⟨k + 1, t', by omega, by go_num, rfl, by omega, HE2.out, hrow', hbl'⟩
                  case measure => simp [intOf]; omega
                · have hte : t.toList.isEmpty = true := by
                    rw [ByteArray.toList_eq, HTT.out, show len - k = 0 by omega]; rfl
                  clear hrow
                  go_wp2
                  go_ret
                  exact ⟨rfl, hbl⟩
end Go.Proofs.Qxb6000909aMods
