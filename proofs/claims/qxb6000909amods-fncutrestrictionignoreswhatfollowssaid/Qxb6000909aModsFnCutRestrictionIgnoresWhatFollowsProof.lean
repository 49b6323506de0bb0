/-
  The proof of 'Rows.FnCutRestrictionIgnoresWhatFollowsSaid', on the frame that the guide's tool wrote for this function.
-/
import Derived.Test.Qxb6000909aModsRows
import Derived.Test.Qxb6000909aModsCutWalk
import Derived.WalkKit
import Derived.ProofKit
import Derived.OpenShut
import Derived.ShutString
namespace Go.Proofs.Qxb6000909aMods.fnCutRestrictionIgnoresWhatFollows
open Go.ChangeShapes Go.WideShapes Go.ChangeAt Go.RowKit
open Go.ChangeMaps (open_string shut_string)
set_option linter.unusedVariables false      -- a walk need not use every 'w<i>' (that an integer argument fits its kind)

theorem join_data (r z t : ByteArray) (hz : z.data.toList = [38]) : (r ++ z ++ t).data.toList = r.data.toList ++ 38 :: t.data.toList := by simp [hz]

theorem bytes_ext {a b : ByteArray} (h : a.data.toList = b.data.toList) : a = b :=
  ByteArray.ext (Array.toList_inj.1 h)

/-- The second cut answers the first's restriction and the tail. -/
theorem cut_same {r z t r2 t2 : ByteArray} (hz : z.data.toList = [38]) (h6 : ∀ x, Cut.cutPos (r.data.toList ++ 38 :: x) = some r.size)
    (k1 : Cut.cutPos (r ++ z ++ t).data.toList = some r2.size)
    (k2 : (r ++ z ++ t).data.toList = r2.data.toList ++ 38 :: t2.data.toList) : r = r2 ∧ t = t2 := by
  rw [join_data _ _ _ hz, h6] at k1
  have hs : r.size = r2.size := by simpa using k1
  rw [join_data _ _ _ hz] at k2
  have hl : r.data.toList.length = r2.data.toList.length := by simpa using hs
  obtain ⟨e1, e2⟩ := List.append_inj k2 hl
  exact ⟨bytes_ext e1, bytes_ext (List.cons.inj e2).2⟩

theorem own : ownKnob Trym.prog.godebug = none := by kernel_rfl

/-! ### STEP 1: THE WALK: the Go text returns true. 'Grown w w'': the world has at most new blocks (Derived/RowKit3.lean). Part the cases AHEAD of 'go_enter' where a test parts the walk; take each callee by a contract of your own. -/
set_option maxHeartbeats 400000 in
theorem walk (a0 : ByteArray) (a1 : ByteArray) (w0 : a0.size ≤ maxLen) (w1 : a1.size ≤ maxLen) (w : World) :
    Calls Trym.prog 5 #[.string a0, .string a1] w fun e w' => e = .returned (.bool true) ∧ Grown w w' := by
  unfold maxLen at w0 w1
  by_cases hsz : a0.size ≤ 1048576
  · by_cases hsum : a0.size + a1.size ≤ 1048576
    · go_enter Trym.func5, Trym.ntmps5
      go_wp2_with (first | (go_at_call 12; go_in) | fail)
      refine (zzcut_calls a0 _ (by omega)).mono ?_
      rintro e x1 ⟨r, t, rfl, (⟨h1, h2, h3, h4, h5, h6⟩ | ⟨h1, rfl, rfl⟩), hg⟩
      · have H6 : Hid (∀ x, Cut.cutPos (r.data.toList ++ 38 :: x) = some r.size) := h6
        clear h1 h2 h3 h6
        go_wp2_with fail
        refine (zzcut_calls _ _ ?_).mono ?_
        · rw [ByteArray.size_append, ByteArray.size_append]; show r.size + 1 + a1.size ≤ _; omega
        rintro e x2 ⟨r2, t2, rfl, (⟨k1, k2, k3, k4, k5, k6⟩ | ⟨k1, k2⟩), hg2⟩
        · obtain ⟨e1, e2⟩ := cut_same rfl H6.out k1 k2
          clear k1 k2 k3 k4 k5 k6 H6
          rw [← e1, ← e2]
          clear e1 e2
          go_wp2
          go_ret
          exact ⟨rfl, grown_trans hg hg2⟩
        · rw [join_data _ _ _ rfl, H6.out] at k1; cases k1
      · go_wp2
        go_ret
        exact ⟨rfl, hg⟩
    · by_cases h1 : a1.size ≤ 1048576
      all_goals
        go_enter Trym.func5, Trym.ntmps5
        go_wp2
        go_ret
        exact ⟨rfl, Grown.refl _⟩
  · go_enter Trym.func5, Trym.ntmps5
    go_wp2
    go_ret
    exact ⟨rfl, Grown.refl _⟩

/-! ### THE ROW's STEP: WRITTEN OUT: LEAVE IT -/
set_option maxRecDepth 100000 in
theorem lifted (os : Os) (started : os.Started) (H : Type) (enc : TypeId × Value → H) :
    ReturnsInHanded {} Trym.checked os 5 .any (Rows.fnCutRestrictionIgnoresWhatFollowsSpec.pre6 enc Trym.prog Trym.f5 Rows.fnCutRestrictionIgnoresWhatFollowsRow.domain false) (Rows.fnCutRestrictionIgnoresWhatFollowsSpec.post enc Trym.prog Trym.f5 false true false false) := by
  refine returnsInHanded_of_change (C := Trym.checked) own started (by kernel_rfl) Trym.func5
    (ChangeSpec.witness6 (enc := enc) (C := Trym.checked) false ⟨#[], #[.string ByteArray.empty, .string ByteArray.empty], []⟩ 8 (by kernel_rfl) (by kernel_rfl) (by kernel_rfl) (by kernel_rfl)) ?_
  intro W base args ds gs before hval0 hW hcnd _
  have hval : ∀ (j : Nat) t v, Trym.f5.params[j]? = some t → args[j]? = some v → Value.okWide Trym.prog W .any base t v := hval0
  have hW' := hW
  obtain ⟨p, q, hA0, hV, rfl, hfz, hnd⟩ := hW
  have hA : DataW.TrodAll enc Trym.prog W 0 (fun _ => true) true Trym.f5.params.toList args.toList ds p := hA0
  rw [Trym.params5] at hA hval
  obtain ⟨v0, vs0, d0, ds0, p0, q0, hargs, rfl, rfl, h0, r0⟩ := trodAll_cons hA
  obtain ⟨v1, vs1, d1, ds1, p1, q1, rfl, rfl, rfl, h1, r1⟩ := trodAll_cons r0
  obtain ⟨rfl, rfl, rfl⟩ := trodAll_nil r1
  obtain rfl : args = #[v0, v1] := by cases args; simp_all
  obtain ⟨rfl, rfl⟩ := trodVars_none hV
  obtain ⟨a0, rfl, rfl, rfl, w0⟩ := open_string Trym.underlying9 (hval 0 9 v0 rfl rfl) h0
  obtain ⟨a1, rfl, rfl, rfl, w1⟩ := open_string Trym.underlying9 (hval 1 9 v1 rfl rfl) h1
  clear hA0 hval0
  simp only [List.append_nil] at hW'
  refine (walk a0 a1 w0 w1 W).mono fun e W' ⟨he, hg⟩ => ?_
  subst he
  exact ⟨_, rfl, post_of_same (pa := []) (pv := []) hW' (fun _ _ _ => (trodAll_cons_mk (shut_bool Trym.underlying4 _) trodAll_mk0)) (fun sp _ => (trodAll_cons_mk (shut_string Trym.underlying9 w0) (trodAll_cons_mk (shut_string Trym.underlying9 w1) trodAll_mk0))) (fun _ _ => rfl) rfl
    (hg.frame _) hg.2.1 (ok_one (by kernel_rfl) rfl (okWide_bool_mk Trym.underlying4 _))⟩

theorem over : Rows.fnCutRestrictionIgnoresWhatFollowsRow.holds Trym.pinned (OpenSpec.ofChange Rows.fnCutRestrictionIgnoresWhatFollowsSpec) :=
  OpenClaim.holds_of_wide 5 Trym.f5 rfl rfl rfl rfl rfl rfl rfl ⟨rfl, rfl, rfl, rfl, rfl⟩ rfl rfl rfl rfl rfl (by kernel_rfl) Trym.func5 (by kernel_rfl)
    (of_decide_eq_true (by kernel_rfl)) (by unfold Func.isWrapper; first | (rw [if_pos (by decide +kernel)]; kernel_rfl) | (rw [if_neg (by decide +kernel)]; exact ⟨rfl, rfl⟩))
    (fun os started H enc _ => lifted os started H enc)

/-- ████ THE STATEMENT ████ -/
theorem proved : Rows.FnCutRestrictionIgnoresWhatFollowsSaid :=
  over
#print axioms proved
end Go.Proofs.Qxb6000909aMods.fnCutRestrictionIgnoresWhatFollows
