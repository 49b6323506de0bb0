import Derived.Test.Qxb6000909aModsRows
import Derived.Test.Qxb6000909aModsTablePlain
import Derived.WalkKit
import Derived.WalkSpells
import Derived.WalkLawsBesides
import Derived.Deep.OwnRows
import Derived.Test.Qxb6000909aModsCutWalk
namespace Go.Proofs.Qxb6000909aMods
open Go.RowKit

theorem zero37 : ∃ cs : Array Value, cs.size = 256 ∧ (∀ i, i < 256 → cs[i]? = some (.int .u8 0)) ∧ ∀ w, (zeroValue 37).run Trym.prog w = .ok (.agg cs) w :=
  ⟨Array.replicate 256 (.int .u8 0), by simp, fun i hi => by simp [hi], fun w => by kernel_rfl⟩
theorem zero30 : ∃ cs : Array Value, cs.size = 256 ∧ (∀ i, i < 256 → cs[i]? = some (.int .u8 0)) ∧ ∀ w, (zeroValue 30).run Trym.prog w = .ok (.agg cs) w :=
  ⟨Array.replicate 256 (.int .u8 0), by simp, fun i hi => by simp [hi], fun w => by kernel_rfl⟩
theorem zero32 : ∃ cs : Array Value, cs.size = 256 ∧ (∀ i, i < 256 → cs[i]? = some (.int .i64 0)) ∧ ∀ w, (zeroValue 32).run Trym.prog w = .ok (.agg cs) w :=
  ⟨Array.replicate 256 (.int .i64 0), by simp, fun i hi => by simp [hi], fun w => by kernel_rfl⟩

theorem byteAt_data (s : ByteArray) (k : Nat) (h : k < s.size) : Tab.byteAt s.data.toList k = s[k].toNat := by
  have h' : k < s.data.toList.length := by simpa using h
  unfold Tab.byteAt; rw [List.getElem?_eq_getElem h']; rfl

set_option maxHeartbeats 400000 in
set_option maxRecDepth 100000 in
theorem table_calls (s : ByteArray) (w : World) (hs : s.size ≤ 1048576) :
    Calls Trym.prog 17 #[.string s] w fun e w' => e = .returned (.pointer (some ⟨w.heap.size, 0, none⟩)) ∧
      w'.rowIs w.heap.size 37 256 (fun b => .int .u8 (Tab.tabK s.data.toList s.size b)) ∧ Grown w w' := by
  obtain ⟨cs, hcs, hc0, hz⟩ := zero37
  go_enter Trym.func17, Trym.ntmps17
  go_wp2
  go_loopw [6] (fun i wr => ∃ k : Nat, k ≤ 256 ∧ i = .int .i64 k ∧ (∃ f, wr.rowIs w.heap.size 37 256 f ∧ ∀ j, j < k → f j = .int .u8 255) ∧ Grown w wr) (fun i _ => 256 - (intOf i).toNat)
  case atStart => exact ⟨0, Nat.zero_le _, rfl, ⟨fun _ => .int .u8 0, by rw [← hcs]; exact World.rowIs_alloc _ _ _ _ (by rw [hcs]; exact hc0), fun j hj => by omega⟩, (Grown.refl _).alloc _ _⟩
  case round =>
    obtain ⟨k, hk, rfl, ⟨f, hf, hfj⟩, hg⟩ := hrel
    clear hz hc0 hcs
    by_cases hlt : k < 256
    · have hc := hf.cell hlt
      have hfr := hf.frozen k
      have hst := hf.set k (.int .u8 255)
      have hg' := hg.setCell (a := ⟨w.heap.size, k, none⟩) (Nat.le_refl _) (.int .u8 255)
      have H : Hid (∀ j, j < k → f j = .int .u8 255) := hfj
      clear hfj hf hg
      go_wp2
      go_roundw
      case rel =>
        refine ⟨k + 1, by omega, by go_num, ⟨_, hst, ?_⟩, hg'⟩
        intro j hj
        show (if j = k then _ else _) = _
        split
        · rfl
        · exact H.out j (by omega)
      case measure => simp [intOf]; omega
    · have hk' : k = 256 := by omega
      subst hk'
      have hrow : wr.rowIs w.heap.size 37 256 (fun b => .int .u8 (Tab.tabK s.data.toList 0 b)) := hf.congr (fun j hj => by rw [hfj j hj]; rfl)
      clear hfj hf
      go_wp2
      go_loopw [14] (fun i wr => ∃ k : Nat, k ≤ s.size ∧ i = .int .i64 k ∧ wr.rowIs w.heap.size 37 256 (fun b => .int .u8 (Tab.tabK s.data.toList k b)) ∧ Grown w wr) (fun i _ => s.size - (intOf i).toNat)
      case atStart => exact ⟨0, Nat.zero_le _, rfl, hrow, hg⟩
      case round =>
        obtain ⟨k, hk, rfl, hf, hg⟩ := hrel
        clear hrow
        by_cases hlt : k < s.size
        · have hb : s[k].toNat < 256 := UInt8.toNat_lt _
          have hc := hf.cell hb
          have hfr := hf.frozen s[k].toNat
          have hst := hf.set s[k].toNat (.int .u8 ((k : Int) % 256))
          have hg' := hg.setCell (a := ⟨w.heap.size, s[k].toNat, none⟩) (Nat.le_refl _) (.int .u8 ((k : Int) % 256))
          have Hb : Hid (Tab.byteAt s.data.toList k = s[k].toNat) := byteAt_data s k hlt
          clear hf hg
          go_wp2
          go_roundw
          case rel =>
            refine ⟨k + 1, by omega, by go_num, hst.congr (fun j _ => ?_), hg'⟩
            show _ = Value.int IntKind.u8 (Tab.tabK s.data.toList (k + 1) j)
            rw [Tab.tabK_succ, Hb.out]
            by_cases e : j = s[k].toNat
            · rw [if_pos e, if_pos e]
            · rw [if_neg e, if_neg e]
          case measure => simp [intOf]; omega
        · have hk' : k = s.size := by omega
          subst hk'
          go_wp2
          go_ret
          exact ⟨rfl, hf, hg⟩

theorem hid_mk {p : Prop} (h : p) : Hid p := h

theorem grown_block {W w' : World} (h : Grown W w') {i : Nat} (hi : i < W.heap.size) : w'.heap[i]? = W.heap[i]? := h.1.block hi (fun _ f => f.elim)

theorem grown_setRow {W w' : World} (h : Grown W w') {g : Nat} (hg : W.heap.size ≤ g) (cs : Array Value) : Grown W (w'.setRow g cs) := by
  obtain ⟨⟨h1, h2, h3⟩, hf, hs⟩ := h
  refine ⟨⟨h1, h2, fun i hi => ?_⟩, fun x => Eq.trans ?_ (hf x), by simpa using hs⟩
  · rw [setRow_other _ _ _ _ (by omega)]; exact h3 i hi
  · by_cases e : x.block = g
    · simp only [World.frozen?, World.setRow, Array.getElem?_modify, e, if_true]
      cases hq : w'.heap[g]? with
      | none => rfl
      | some o => cases o <;> rfl
    · simp only [World.frozen?]; rw [setRow_other _ _ _ _ e]

set_option maxRecDepth 100000 in
set_option maxHeartbeats 400000 in
theorem zztable_calls (s : ByteArray) (w : World) (hs : s.size ≤ 1048576) :
    Calls Trym.prog 14 #[.string s] w fun e w' => ∃ cs : Array Value, e = .returned (.agg cs) ∧ cs.size = 256 ∧
      (∀ b, b < 256 → cs[b]? = some (.int .u8 (Tab.tabK s.data.toList s.size b))) ∧ Grown w w' := by
  obtain ⟨cs, hcs, hc0, hz⟩ := zero30
  go_enter Trym.func14, Trym.ntmps14
  go_wp2_with fail
  refine (table_calls s _ hs).mono ?_
  rintro e w1 ⟨rfl, ⟨ct, hb, hsz, hct⟩, hg⟩
  have hb' : w1.heap[w.heap.size + 1]? = some (Obj.cells ct 37) := by simpa using hb
  have ho : w1.heap[w.heap.size]? = some (Obj.cells cs 30) := (grown_block hg (by simp)).trans (heap_alloc_new _ _)
  have hG : Grown w w1 := grown_trans ((Grown.refl _).alloc _ _) hg
  have hsc : cs.size = ct.size := by rw [hcs, hsz]
  have hone : ct.all (·.oneCell') = true := by
    rw [Array.all_eq_true_iff_forall_mem]
    intro x hx
    obtain ⟨i, hi, rfl⟩ := Array.mem_iff_getElem.1 hx
    have := hct i (by omega)
    rw [Array.getElem?_eq_getElem hi] at this
    rw [Option.some.inj this]; rfl
  have HC : Hid (∀ i, i < 256 → ct[i]? = some (Value.int IntKind.u8 (Tab.tabK s.data.toList s.size i))) := hct
  have HZ : Hid (ct.size = 256) := hsz
  have HO : Hid (ct.all (·.oneCell') = true) := hone
  have HS : Hid (cs.size = ct.size) := hsc
  clear hb hg hct hcs hc0 hz hsz hone hsc
  have hi37 : (Trym.prog.info? 37).map (·.size) = some ct.size := by rw [HZ.out]; kernel_rfl
  have hi30 : (Trym.prog.info? 30).map (·.size) = some ct.size := by rw [HZ.out]; kernel_rfl
  have HI37 := hid_mk hi37
  have HI30 := hid_mk hi30
  clear hi37 hi30
  go_wp2_with fail
  refine wp_load_row 37 _ rfl (w.heap.size + 1) rfl _ ct _ _ hb' Trym.underlying37 rfl HI37.out ?_
  go_wp2_with (first | (refine wpList_store_row rfl 30 _ _ rfl w.heap.size ct rfl rfl _ cs ho HI30.out HS.out HO.out ?_) | fail)
  exact bodyPost_ret (v := .agg ct) (results_cell_row Trym.results14 _ _ w.heap.size 30 ct (0, 0) _ rfl (setRow_heap _ _ _ _ _ _ ho) Trym.underlying30 rfl HI30.out) rfl ⟨ct, rfl, HZ.out, HC.out, grown_setRow hG (Nat.le_refl _) ct⟩
end Go.Proofs.Qxb6000909aMods
