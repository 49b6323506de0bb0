/-
  The proof of 'Rows.FnBase64AlphabetInvertsDistinctCharsSaid', on the frame that the guide's tool wrote for this function.
-/
import Derived.Test.Qxb6000909aModsRows
import Derived.Test.Qxb6000909aModsTableWalk
import Derived.WalkKit
import Derived.ProofKit
import Derived.OpenShut
import Derived.ShutString
namespace Go.Proofs.Qxb6000909aMods.fnBase64AlphabetInvertsDistinctChars
open Go.ChangeShapes Go.WideShapes Go.ChangeAt Go.RowKit
open Go.ChangeMaps (open_string shut_string)
set_option linter.unusedVariables false      -- a walk need not use every 'w<i>' (that an integer argument fits its kind)

theorem one_cells (ct : Array Value) (f : Nat → Int) (hsz : ct.size = 256) (hct : ∀ b, b < 256 → ct[b]? = some (.int .u8 (f b))) : ct.all (·.oneCell') = true := by
  rw [Array.all_eq_true_iff_forall_mem]
  intro x hx
  obtain ⟨i, hi, rfl⟩ := Array.mem_iff_getElem.1 hx
  have := hct i (by omega)
  rw [Array.getElem?_eq_getElem hi] at this
  rw [Option.some.inj this]; rfl

theorem info30 (ct : Array Value) (hsz : ct.size = 256) : (Trym.prog.info? 30).map (·.size) = some ct.size := by rw [hsz]; kernel_rfl

theorem zero33 : ∃ cs : Array Value, cs.size = 256 ∧ (∀ i, i < 256 → cs[i]? = some (.bool false)) ∧ ∀ w, (zeroValue 33).run Trym.prog w = .ok (.agg cs) w :=
  ⟨Array.replicate 256 (.bool false), by simp, fun i hi => by simp [hi], fun w => by kernel_rfl⟩

theorem seen_start (w : World) {c2 : Array Value} {l : List UInt8} (hc2 : c2.size = 256) (hc2v : ∀ b, b < 256 → c2[b]? = some (.bool false)) :
    (w.alloc (.cells c2 33)).rowIs w.heap.size 33 256 (fun b => .bool (Tab.seen l 0 b)) := by
  have := World.rowIs_alloc w c2 33 (fun _ => .bool false) (by rw [hc2]; exact hc2v)
  rw [hc2] at this
  exact this.congr (fun j _ => by rw [Tab.seen_zero])

theorem seen_stored {l : List UInt8} {k x j : Nat} (hx : Tab.byteAt l k = x) :
    (if j = x then Value.bool true else Value.bool (Tab.seen l k j)) = Value.bool (Tab.seen l (k + 1) j) := by
  subst hx
  rw [Tab.seen_succ]
  split <;> rfl

theorem one_start {w w1 : World} {cs c0 : Array Value} {T : Nat → Value} (hg : Grown w w1) (hcs : cs.size = 256) (hct : ∀ b, b < 256 → cs[b]? = some (T b)) :
    ((w1.alloc (.cells c0 30)).setRow w1.heap.size cs).rowIs w1.heap.size 30 256 T ∧ Grown w ((w1.alloc (.cells c0 30)).setRow w1.heap.size cs) :=
  ⟨⟨cs, setRow_heap _ _ _ _ _ _ (heap_alloc_new _ _), hcs, hct⟩, grown_setRow (hg.alloc _ _) hg.2.2 _⟩

theorem tab_here {s : ByteArray} {k : Nat} (hd : Tab.Distinct s.data.toList s.size) (hsz : s.size ≤ 255) (hlt : k < s.size) :
    Tab.tabK s.data.toList s.size s[k].toNat = (k : Int) := by
  rw [← byteAt_data s k hlt, Tab.tabK_eq, Tab.lastIdx_distinct hd k hlt, if_neg (by omega)]
  omega

theorem count_step (l : List UInt8) (n k : Nat) : Tab.count l n (k + 1) = Tab.count l n k + if Tab.seen l n k = true then 1 else 0 := rfl

/-- A byte that stands nowhere, and one that stands at place 'v'. -/
theorem tab_case {s : ByteArray} (hsz : s.size ≤ 255) (k : Nat) :
    (Tab.seen s.data.toList s.size k = false ∧ Tab.tabK s.data.toList s.size k = 255) ∨
    (∃ v : Nat, ∃ hv : v < s.size, Tab.seen s.data.toList s.size k = true ∧ Tab.tabK s.data.toList s.size k = (v : Int) ∧ s[v].toNat = k) := by
  have h1 := Tab.lastIdx_lt s.data.toList s.size k
  have h3 := Tab.lastIdx_at s.data.toList s.size k
  rw [Tab.tabK_eq]
  unfold Tab.seen
  generalize Tab.lastIdx s.data.toList s.size k = x at h1 h3
  by_cases h : x < 0
  · exact Or.inl ⟨by simp; omega, if_pos h⟩
  · refine Or.inr ⟨x.toNat, by omega, by simp; omega, by rw [if_neg h]; omega, ?_⟩
    rw [← byteAt_data s x.toNat (by omega)]
    exact h3 (by omega)

theorem own : ownKnob Trym.prog.godebug = none := by kernel_rfl

/-! ### STEP 1: THE WALK: the Go text returns true. 'Grown w w'': the world has at most new blocks (Derived/RowKit3.lean). Part the cases AHEAD of 'go_enter' where a test parts the walk; take each callee by a contract of your own. -/
set_option maxRecDepth 100000 in
set_option maxHeartbeats 1000000 in
theorem walk (a0 : ByteArray) (w0 : a0.size ≤ maxLen) (w : World) :
    Calls Trym.prog 7 #[.string a0] w fun e w' => e = .returned (.bool true) ∧ Grown w w' := by
  unfold maxLen at w0
  by_cases hbig : a0.size ≤ 1048576
  · by_cases hsz : a0.size ≤ 255
    · obtain ⟨c0, hc0, _, hz0⟩ := zero30
      obtain ⟨c2, hc2, hc2v, hz2⟩ := zero33
      go_enter Trym.func7, Trym.ntmps7
      go_wp2_with (first | (go_at_call 15; go_in) | fail)
      go_loopw [4] (fun i wr => ∃ k : Nat, k ≤ a0.size ∧ i = .int .i64 k ∧ Tab.Distinct a0.data.toList k ∧ wr.rowIs w.heap.size 33 256 (fun b => .bool (Tab.seen a0.data.toList k b)) ∧ Grown w wr) (fun i _ => a0.size - (intOf i).toNat)
      case atStart => exact ⟨0, Nat.zero_le _, rfl, Tab.distinct_zero _, seen_start w hc2 hc2v, (Grown.refl _).alloc _ _⟩
      case round =>
        obtain ⟨k, hk, rfl, hd, hf, hg⟩ := hrel
        clear hc2 hc2v hz2
        by_cases hlt : k < a0.size
        · have hb : a0[k].toNat < 256 := UInt8.toNat_lt _
          have hc := hf.cell hb
          have hfr := hf.frozen a0[k].toNat
          have Hb := hid_mk (byteAt_data a0 k hlt)
          have hst := hf.set a0[k].toNat (.bool true)
          have hg' := hg.setCell (a := ⟨w.heap.size, a0[k].toNat, none⟩) (Nat.le_refl _) (.bool true)
          by_cases hseen : Tab.seen a0.data.toList k a0[k].toNat = true
          · rw [hseen] at hc
            clear hf hseen hst hg'
            go_wp2
            go_ret
            exact ⟨rfl, hg⟩
          · have hs' : Tab.seen a0.data.toList k a0[k].toNat = false := by simpa using hseen
            have hd' := Tab.distinct_succ hd (by rw [Hb.out]; exact hs')
            have hst' := hst.congr (g := fun b => .bool (Tab.seen a0.data.toList (k + 1) b)) (fun j _ => seen_stored Hb.out)
            rw [hs'] at hc
            clear hf hseen hst hs' hg Hb
            go_wp2
            go_roundw
            case rel => exact ⟨k + 1, by omega, by go_num, hd', hst', hg'⟩
            case measure => simp [intOf]; omega
        · have hk' : k = a0.size := by omega
          subst hk'
          clear hlt hf
          go_wp2_with fail
          refine (zztable_calls a0 _ (by omega)).mono ?_
          rintro e w1 ⟨cs, rfl, hcs, hct, hg1⟩
          have hG := grown_trans hg hg1
          have hone := one_cells cs _ hcs hct
          have HO := hid_mk hone
          have h2 := one_start hG hcs hct (c0 := c0)
          have HI30 := hid_mk (info30 cs hcs)
          have HS := hid_mk (hc0.trans hcs.symm)
          clear hone hct hc0 hcs hg hg1 hG
          go_wp2_with (first | (refine wpList_store_row rfl 30 _ _ rfl w1.heap.size cs rfl rfl _ c0 (heap_alloc_new _ _) HI30.out HS.out HO.out ?_) | fail)
          clear HO HI30 HS hz0
          obtain ⟨W, hW⟩ : ∃ W, W = (w1.alloc (.cells c0 30)).setRow w1.heap.size cs := ⟨_, rfl⟩
          rw [← hW] at h2 ⊢
          clear hW
          obtain ⟨hrow, hG⟩ := h2
          go_loop [6] (fun i => ∃ k : Nat, k ≤ a0.size ∧ i = .int .i64 k) (fun i => a0.size - (intOf i).toNat)
          case atStart => exact ⟨0, Nat.zero_le _, rfl⟩
          case round =>
            obtain ⟨k, hk, rfl⟩ := hrel
            by_cases hlt : k < a0.size
            · have hb : a0[k].toNat < 256 := UInt8.toNat_lt _
              have hc := hrow.cell hb
              rw [tab_here hd hsz hlt] at hc
              go_wp2
              go_round
              case rel => exact ⟨k + 1, by omega, by go_num⟩
              case measure => simp [intOf]; omega
            · have hk' : k = a0.size := by omega
              subst hk'
              clear hlt
              go_wp2
              go_loop [7, 8] (fun m i => ∃ k : Nat, k ≤ 256 ∧ i = .int .i64 k ∧ m = .int .i64 (Tab.count a0.data.toList a0.size k)) (fun _ i => 256 - (intOf i).toNat)
              case atStart => exact ⟨0, Nat.zero_le _, rfl, rfl⟩
              case round =>
                obtain ⟨k, hk, rfl, rfl⟩ := hrel
                have hcl := Tab.count_le a0.data.toList a0.size k
                by_cases hlt : k < 256
                · have hc := hrow.cell hlt
                  have Hcs := hid_mk (count_step a0.data.toList a0.size k)
                  rcases tab_case hsz k with ⟨hn, ht⟩ | ⟨v, hv, hs, ht, hvb⟩
                  · rw [ht] at hc
                    rw [hn] at Hcs
                    clear ht hn
                    go_wp2
                    go_round
                    case rel => exact ⟨k + 1, by omega, by go_num, by rw [Hcs.out]; rfl⟩
                    case measure => simp [intOf]; omega
                  · rw [ht] at hc
                    rw [hs] at Hcs
                    clear ht hs
                    go_wp2
                    go_round
                    case rel => exact ⟨k + 1, by omega, by go_num, by rw [Hcs.out]; rfl⟩
                    case measure => simp [intOf]; omega
                · have hk' : k = 256 := by omega
                  subst hk'
                  have hcd := Tab.count_distinct hd
                  rw [hcd]
                  clear hcl hcd
                  go_wp2
                  go_ret
                  exact ⟨rfl, hG⟩
    · go_enter Trym.func7, Trym.ntmps7
      go_wp2
      go_ret
      exact ⟨rfl, Grown.refl _⟩
  · go_enter Trym.func7, Trym.ntmps7
    go_wp2
    go_ret
    exact ⟨rfl, Grown.refl _⟩

/-! ### THE ROW's STEP: WRITTEN OUT: LEAVE IT -/
set_option maxRecDepth 100000 in
theorem lifted (os : Os) (started : os.Started) (H : Type) (enc : TypeId × Value → H) :
    ReturnsInHanded {} Trym.checked os 7 .any (Rows.fnBase64AlphabetInvertsDistinctCharsSpec.pre6 enc Trym.prog Trym.f7 Rows.fnBase64AlphabetInvertsDistinctCharsRow.domain false) (Rows.fnBase64AlphabetInvertsDistinctCharsSpec.post enc Trym.prog Trym.f7 false true false false) := by
  refine returnsInHanded_of_change (C := Trym.checked) own started (by kernel_rfl) Trym.func7
    (ChangeSpec.witness6 (enc := enc) (C := Trym.checked) false ⟨#[], #[.string ByteArray.empty], []⟩ 8 (by kernel_rfl) (by kernel_rfl) (by kernel_rfl) (by kernel_rfl)) ?_
  intro W base args ds gs before hval0 hW hcnd _
  have hval : ∀ (j : Nat) t v, Trym.f7.params[j]? = some t → args[j]? = some v → Value.okWide Trym.prog W .any base t v := hval0
  have hW' := hW
  obtain ⟨p, q, hA0, hV, rfl, hfz, hnd⟩ := hW
  have hA : DataW.TrodAll enc Trym.prog W 0 (fun _ => true) true Trym.f7.params.toList args.toList ds p := hA0
  rw [Trym.params7] at hA hval
  obtain ⟨v0, vs0, d0, ds0, p0, q0, hargs, rfl, rfl, h0, r0⟩ := trodAll_cons hA
  obtain ⟨rfl, rfl, rfl⟩ := trodAll_nil r0
  obtain rfl : args = #[v0] := by cases args; simp_all
  obtain ⟨rfl, rfl⟩ := trodVars_none hV
  obtain ⟨a0, rfl, rfl, rfl, w0⟩ := open_string Trym.underlying9 (hval 0 9 v0 rfl rfl) h0
  clear hA0 hval0
  simp only [List.append_nil] at hW'
  refine (walk a0 w0 W).mono fun e W' ⟨he, hg⟩ => ?_
  subst he
  exact ⟨_, rfl, post_of_same (pa := []) (pv := []) hW' (fun _ _ _ => (trodAll_cons_mk (shut_bool Trym.underlying4 _) trodAll_mk0)) (fun sp _ => (trodAll_cons_mk (shut_string Trym.underlying9 w0) trodAll_mk0)) (fun _ _ => rfl) rfl
    (hg.frame _) hg.2.1 (ok_one (by kernel_rfl) rfl (okWide_bool_mk Trym.underlying4 _))⟩

theorem over : Rows.fnBase64AlphabetInvertsDistinctCharsRow.holds Trym.pinned (OpenSpec.ofChange Rows.fnBase64AlphabetInvertsDistinctCharsSpec) :=
  OpenClaim.holds_of_wide 7 Trym.f7 rfl rfl rfl rfl rfl rfl rfl ⟨rfl, rfl, rfl, rfl, rfl⟩ rfl rfl rfl rfl rfl (by kernel_rfl) Trym.func7 (by kernel_rfl)
    (of_decide_eq_true (by kernel_rfl)) (by unfold Func.isWrapper; first | (rw [if_pos (by decide +kernel)]; kernel_rfl) | (rw [if_neg (by decide +kernel)]; exact ⟨rfl, rfl⟩))
    (fun os started H enc _ => lifted os started H enc)

/-- ████ THE STATEMENT ████ -/
theorem proved : Rows.FnBase64AlphabetInvertsDistinctCharsSaid :=
  over
#print axioms proved
end Go.Proofs.Qxb6000909aMods.fnBase64AlphabetInvertsDistinctChars
