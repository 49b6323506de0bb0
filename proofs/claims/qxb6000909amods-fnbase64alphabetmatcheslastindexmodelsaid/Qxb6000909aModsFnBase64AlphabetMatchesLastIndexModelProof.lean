/-
  The proof of 'Rows.FnBase64AlphabetMatchesLastIndexModelSaid', on the frame that the guide's tool wrote for this function.
-/
import Derived.Test.Qxb6000909aModsRows
import Derived.Test.Qxb6000909aModsTableWalk
import Derived.WalkKit
import Derived.ProofKit
import Derived.OpenShut
import Derived.ShutString
namespace Go.Proofs.Qxb6000909aMods.fnBase64AlphabetMatchesLastIndexModel
open Go.ChangeShapes Go.WideShapes Go.ChangeAt Go.RowKit
open Go.ChangeMaps (open_string shut_string)
set_option linter.unusedVariables false      -- a walk need not use every 'w<i>' (that an integer argument fits its kind)

theorem one_cells (ct : Array Value) (f : Nat → Int) (hsz : ct.size = 256) (hct : ∀ b, b < 256 → ct[b]? = some (.int .u8 (f b))) : ct.all (·.oneCell') = true := by
  rw [Array.all_eq_true_iff_forall_mem]
  intro x hx
  obtain ⟨i, hi, rfl⟩ := Array.mem_iff_getElem.1 hx
  have := hct i (by omega)
  rw [Array.getElem?_eq_getElem hi] at this
  rw [Option.some.inj this]; rfl

theorem info30 (ct : Array Value) (hsz : ct.size = 256) : (Trym.prog.info? 30).map (·.size) = some ct.size := by rw [hsz]; kernel_rfl

/-- The two rows of the law: the table (block 'B'), and 'want' (the next). -/
def Two (w wr : World) (B : Nat) (T W : Nat → Value) : Prop := w.heap.size ≤ B ∧ wr.rowIs B 30 256 T ∧ wr.rowIs (B + 1) 32 256 W ∧ Grown w wr

theorem two_set {w wr : World} {B : Nat} {T W : Nat → Value} (h : Two w wr B T W) (i : Nat) (v : Value) :
    Two w (wr.setCell ⟨B + 1, i, none⟩ v) B T (fun j => if j = i then v else W j) :=
  ⟨h.1, h.2.1.setOther (by show B ≠ B + 1; omega) v, h.2.2.1.set i v, h.2.2.2.setCell (by show _ ≤ B + 1; have := h.1; omega) v⟩

theorem two_congr {w wr : World} {B : Nat} {T W W' : Nat → Value} (h : Two w wr B T W) (e : ∀ j, j < 256 → W j = W' j) : Two w wr B T W' :=
  ⟨h.1, h.2.1, h.2.2.1.congr e, h.2.2.2⟩

theorem two_drew {w wr : World} {B : Nat} {T W : Nat → Value} (h : Two w wr B T W) : Two w wr.drew B T W := h

theorem want_stored {l : List UInt8} {n m x j : Nat} (hx : Tab.byteAt l m = x) (hm : m < n) (hneg : Tab.want l n (m + 1) x < 0) :
    (if j = x then Value.int .i64 (m : Int) else Value.int .i64 (Tab.want l n (m + 1) j)) = Value.int .i64 (Tab.want l n m j) := by
  subst hx
  rw [Tab.want_store l n m j hm hneg]
  split <;> rfl

theorem want_kept {l : List UInt8} {n m x j : Nat} (hx : Tab.byteAt l m = x) (hneg : ¬ Tab.want l n (m + 1) x < 0) :
    Value.int .i64 (Tab.want l n (m + 1) j) = Value.int .i64 (Tab.want l n m j) := by
  subst hx
  rw [Tab.want_keep l n m j hneg]

theorem two_start {w w1 : World} {cs c0 c2 : Array Value} {T W : Nat → Value} (hg : Grown w w1) (hcs : cs.size = 256) (hct : ∀ b, b < 256 → cs[b]? = some (T b))
    (hc2 : c2.size = 256) (hc2v : ∀ b, b < 256 → c2[b]? = some (W b)) :
    Two w (((w1.alloc (.cells c0 30)).setRow w1.heap.size cs).alloc (.cells c2 32)) w1.heap.size T W := by
  refine ⟨hg.2.2, ?_, ?_, (grown_setRow (hg.alloc _ _) hg.2.2 _).alloc _ _⟩
  · refine World.rowIs.alloc ?_ _
    exact ⟨cs, setRow_heap _ _ _ _ _ _ (heap_alloc_new _ _), hcs, hct⟩
  · have := World.rowIs_alloc ((w1.alloc (.cells c0 30)).setRow w1.heap.size cs) c2 32 W (by rw [hc2]; exact hc2v)
    rw [hc2] at this
    simpa using this

theorem own : ownKnob Trym.prog.godebug = none := by kernel_rfl

/-! ### STEP 1: THE WALK: the Go text returns true. 'Grown w w'': the world has at most new blocks (Derived/RowKit3.lean). Part the cases AHEAD of 'go_enter' where a test parts the walk; take each callee by a contract of your own. -/
set_option maxRecDepth 100000 in
set_option maxHeartbeats 1000000 in
theorem walk (a0 : ByteArray) (w0 : a0.size ≤ maxLen) (w : World) :
    Calls Trym.prog 6 #[.string a0] w fun e w' => e = .returned (.bool true) ∧ Grown w w' := by
  unfold maxLen at w0
  by_cases hsz : a0.size ≤ 1048576
  · obtain ⟨c0, hc0, _, hz0⟩ := zero30
    obtain ⟨c2, hc2, hc2v, hz2⟩ := zero32
    go_enter Trym.func6, Trym.ntmps6
    go_wp2_with (first | (go_at_call 13; go_in) | fail)
    refine (zztable_calls a0 _ hsz).mono ?_
    rintro e w1 ⟨cs, rfl, hcs, hct, hg⟩
    have hone := one_cells cs _ hcs hct
    have HO := hid_mk hone
    have h2 := two_start hg hcs hct hc2 hc2v (c0 := c0)
    have HI30 := hid_mk (info30 cs hcs)
    have HS := hid_mk (hc0.trans hcs.symm)
    clear hone hct hc0 hcs hc2 hc2v hg
    go_wp2_with (first | (refine wpList_store_row rfl 30 _ _ rfl w1.heap.size cs rfl rfl _ c0 (heap_alloc_new _ _) HI30.out HS.out HO.out ?_) | fail)
    clear HO HI30 HS hz0 hz2
    go_loopw [5] (fun i wr => ∃ k : Nat, k ≤ 256 ∧ i = .int .i64 k ∧ ∃ f, (∀ j, j < k → f j = .int .i64 (-1)) ∧ Two w wr w1.heap.size (fun b => .int .u8 (Tab.tabK a0.data.toList a0.size b)) f) (fun i _ => 256 - (intOf i).toNat)
    case atStart => exact ⟨0, Nat.zero_le _, rfl, _, fun j hj => by omega, h2⟩
    case round =>
      obtain ⟨k, hk, rfl, f, hfj, h2⟩ := hrel
      by_cases hlt : k < 256
      · have hc := h2.2.2.1.cell hlt
        have hfr := h2.2.2.1.frozen k
        have h2' := two_set h2 k (.int .i64 (-1))
        have H : Hid (∀ j, j < k → f j = .int .i64 (-1)) := hfj
        clear hfj h2
        go_wp2
        go_roundw
        case rel =>
          refine ⟨k + 1, by omega, by go_num, _, ?_, h2'⟩
          intro j hj
          show (if j = k then _ else _) = _
          split
          · rfl
          · exact H.out j (by omega)
        case measure => simp [intOf]; omega
      · have hk' : k = 256 := by omega
        subst hk'
        have h3 : Two w wr w1.heap.size (fun b => .int .u8 (Tab.tabK a0.data.toList a0.size b)) (fun b => .int .i64 (Tab.want a0.data.toList a0.size a0.size b)) :=
          two_congr h2 (fun j hj => by rw [hfj j hj, Tab.want_start])
        clear hfj h2 hlt hk
        go_wp2
        go_loopw [6] (fun i wr => ∃ m : Nat, m ≤ a0.size ∧ i = .int .i64 ((m : Int) - 1) ∧ Two w wr w1.heap.size (fun b => .int .u8 (Tab.tabK a0.data.toList a0.size b)) (fun b => .int .i64 (Tab.want a0.data.toList a0.size m b))) (fun i _ => (intOf i + 1).toNat)
        case atStart => exact ⟨a0.size, Nat.le_refl _, rfl, h3⟩
        case round =>
          obtain ⟨m, hm, hi, h2⟩ := hrel
          clear h3
          rcases m with _ | m
          · have h4 : Two w wr w1.heap.size (fun b => .int .u8 (Tab.tabK a0.data.toList a0.size b)) (fun b => .int .i64 (Tab.lastIdx a0.data.toList a0.size b)) :=
              two_congr h2 (fun j hj => by rw [Tab.want_end])
            have hi' : u6 = .int .i64 (-1) := by rw [hi]; rfl
            clear hi h2 hm
            subst hi'
            go_wp2
            go_loopw [7] (fun i wr => ∃ k : Nat, k ≤ 256 ∧ i = .int .i64 k ∧ Two w wr w1.heap.size (fun b => .int .u8 (Tab.tabK a0.data.toList a0.size b)) (fun b => .int .i64 (Tab.lastIdx a0.data.toList a0.size b))) (fun i _ => 256 - (intOf i).toNat)
            case atStart => exact ⟨0, Nat.zero_le _, rfl, h4⟩
            case round =>
              obtain ⟨k, hk, rfl, h2⟩ := hrel
              clear h4
              by_cases hlt : k < 256
              · have hT := h2.2.1.cell hlt
                have hW := h2.2.2.1.cell hlt
                have ht := Tab.tabK_eq a0.data.toList a0.size k
                have hl := Tab.lastIdx_lt a0.data.toList a0.size k
                have hl0 := Tab.lastIdx_ge a0.data.toList a0.size k
                generalize Tab.tabK a0.data.toList a0.size k = t at hT ht
                generalize Tab.lastIdx a0.data.toList a0.size k = v at hW hl hl0 ht
                by_cases hneg : v < 0
                · rw [if_pos hneg] at ht
                  subst ht
                  go_wp2
                  go_roundw
                  case rel => exact ⟨k + 1, by omega, by go_num, h2⟩
                  case measure => simp [intOf]; omega
                · rw [if_neg hneg] at ht
                  subst ht
                  go_wp2
                  go_region
                  all_goals go_wp2
                  all_goals go_roundw
                  case rel => first | exact ⟨k + 1, by omega, by go_num, two_drew h2⟩ | ((repeat apply Exists.intro); exact ⟨⟨k + 1, by omega, by go_num, two_drew h2⟩, rfl⟩)
                  case measure => simp [intOf]; omega
              · have hk' : k = 256 := by omega
                subst hk'
                go_wp2
                go_ret
                exact ⟨rfl, h2.2.2.2⟩
          · have hi' : u6 = .int .i64 (m : Int) := by rw [hi]; congr 1; omega
            clear hi
            subst hi'
            have hb : a0[m].toNat < 256 := UInt8.toNat_lt _
            have hW := h2.2.2.1.cell hb
            have hfr := h2.2.2.1.frozen a0[m].toNat
            have Hb := hid_mk (byteAt_data a0 m (by omega))
            have h2' := two_set h2 a0[m].toNat (.int .i64 (m : Int))
            by_cases hneg : Tab.want a0.data.toList a0.size (m + 1) a0[m].toNat < 0
            · have h3' := two_congr (W' := fun b => .int .i64 (Tab.want a0.data.toList a0.size m b)) h2' (fun j _ => want_stored Hb.out (by omega) hneg)
              generalize Tab.want a0.data.toList a0.size (m + 1) a0[m].toNat = v at hW hneg
              clear h2 h2' Hb
              go_wp2
              go_roundw
              case rel => first | exact ⟨m, by omega, rfl, h3'⟩ | ((repeat apply Exists.intro); exact ⟨⟨m, by omega, rfl, h3'⟩, rfl⟩)
              case measure => simp [intOf]
            · have h3' := two_congr (W' := fun b => .int .i64 (Tab.want a0.data.toList a0.size m b)) h2 (fun j _ => want_kept Hb.out hneg)
              generalize Tab.want a0.data.toList a0.size (m + 1) a0[m].toNat = v at hW hneg
              clear h2 h2' Hb
              go_wp2
              go_roundw
              case rel => first | exact ⟨m, by omega, rfl, h3'⟩ | ((repeat apply Exists.intro); exact ⟨⟨m, by omega, rfl, h3'⟩, rfl⟩)
              case measure => simp [intOf]
  · go_enter Trym.func6, Trym.ntmps6
    go_wp2
    go_ret
    exact ⟨rfl, Grown.refl _⟩

/-! ### THE ROW's STEP: WRITTEN OUT: LEAVE IT -/
set_option maxRecDepth 100000 in
theorem lifted (os : Os) (started : os.Started) (H : Type) (enc : TypeId × Value → H) :
    ReturnsInHanded {} Trym.checked os 6 .any (Rows.fnBase64AlphabetMatchesLastIndexModelSpec.pre6 enc Trym.prog Trym.f6 Rows.fnBase64AlphabetMatchesLastIndexModelRow.domain false) (Rows.fnBase64AlphabetMatchesLastIndexModelSpec.post enc Trym.prog Trym.f6 false true false false) := by
  refine returnsInHanded_of_change (C := Trym.checked) own started (by kernel_rfl) Trym.func6
    (ChangeSpec.witness6 (enc := enc) (C := Trym.checked) false ⟨#[], #[.string ByteArray.empty], []⟩ 8 (by kernel_rfl) (by kernel_rfl) (by kernel_rfl) (by kernel_rfl)) ?_
  intro W base args ds gs before hval0 hW hcnd _
  have hval : ∀ (j : Nat) t v, Trym.f6.params[j]? = some t → args[j]? = some v → Value.okWide Trym.prog W .any base t v := hval0
  have hW' := hW
  obtain ⟨p, q, hA0, hV, rfl, hfz, hnd⟩ := hW
  have hA : DataW.TrodAll enc Trym.prog W 0 (fun _ => true) true Trym.f6.params.toList args.toList ds p := hA0
  rw [Trym.params6] at hA hval
  obtain ⟨v0, vs0, d0, ds0, p0, q0, hargs, rfl, rfl, h0, r0⟩ := trodAll_cons hA
  obtain ⟨rfl, rfl, rfl⟩ := trodAll_nil r0
  obtain rfl : args = #[v0] := by cases args; simp_all
  obtain ⟨rfl, rfl⟩ := trodVars_none hV
  obtain ⟨a0, rfl, rfl, rfl, w0⟩ := open_string Trym.underlying9 (hval 0 9 v0 rfl rfl) h0
  clear hA0 hval0
  simp only [List.append_nil] at hW'
  refine (walk a0 w0 W).mono fun e W' ⟨he, hg⟩ => ?_
  subst he
  exact ⟨_, rfl, post_of_same (pa := []) (pv := []) hW' (fun _ _ _ => (trodAll_cons_mk (shut_bool Trym.underlying4 _) trodAll_mk0)) (fun sp _ => (trodAll_cons_mk (shut_string Trym.underlying9 w0) trodAll_mk0)) (fun _ _ => rfl) rfl
    (hg.frame _) hg.2.1 (ok_one (by kernel_rfl) rfl (okWide_bool_mk Trym.underlying4 _))⟩

theorem over : Rows.fnBase64AlphabetMatchesLastIndexModelRow.holds Trym.pinned (OpenSpec.ofChange Rows.fnBase64AlphabetMatchesLastIndexModelSpec) :=
  OpenClaim.holds_of_wide 6 Trym.f6 rfl rfl rfl rfl rfl rfl rfl ⟨rfl, rfl, rfl, rfl, rfl⟩ rfl rfl rfl rfl rfl (by kernel_rfl) Trym.func6 (by kernel_rfl)
    (of_decide_eq_true (by kernel_rfl)) (by unfold Func.isWrapper; first | (rw [if_pos (by decide +kernel)]; kernel_rfl) | (rw [if_neg (by decide +kernel)]; exact ⟨rfl, rfl⟩))
    (fun os started H enc _ => lifted os started H enc)

/-- ████ THE STATEMENT ████ -/
theorem proved : Rows.FnBase64AlphabetMatchesLastIndexModelSaid :=
  over
#print axioms proved
end Go.Proofs.Qxb6000909aMods.fnBase64AlphabetMatchesLastIndexModel
