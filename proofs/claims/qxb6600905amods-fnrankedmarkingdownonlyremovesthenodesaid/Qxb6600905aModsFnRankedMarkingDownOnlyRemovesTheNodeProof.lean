/-
  The proof of 'Rows.FnRankedMarkingDownOnlyRemovesTheNodeSaid', on the frame that the guide's tool writes for a law over slices.
-/
import Derived.Test.Qxb6600905aModsRows
import Derived.Test.Qxb6600905aModsLawLess
import Derived.Test.Qxb6600905aModsOpen
import Derived.WalkKit
import Derived.ProofKit
import Derived.OpenShut
import Derived.ShutString
import Derived.ChangeOld
import Derived.Below
namespace Go.Proofs.Qxb6600905aMods.fnRankedMarkingDownOnlyRemovesTheNode
open Go.ChangeShapes Go.WideShapes Go.ChangeAt Go.RowKit
open Go.ChangeMaps (open_string shut_string)
set_option linter.unusedVariables false

theorem own : ownKnob Trym.prog.godebug = none := by kernel_rfl
theorem laidOut : laidOutB Trym.prog = true := by kernel_rfl

/-! ### THE WALK -/
theorem walk (a0 : Option Addr) (len0 cap0 : Nat) (a1 : Option Addr) (len1 cap1 : Nat) (a2 : Option Addr) (len2 cap2 : Nat) (a3 : Bool) (a4 : Int) (a5 : Int) (w : World) (w0 : Told w a0 len0) (w1 : ToldRow w .i64 a1 len1) (w2 : ToldRow w .u64 a2 len2) (w5 : (Lit.int .i64 a5).wf = true) :
    Calls Trym.prog 9 #[.slice a0 len0 cap0, .slice a1 len1 cap1, .slice a2 len2 cap2, .bool a3, .int .u64 a4, .int .i64 a5] w fun e w' => e = .returned (.bool true) ∧ Below w.heap.size w w' := by
  obtain ⟨b0, off0, M, m1, m2, m3⟩ := w0
  obtain ⟨b1, off1, F1, r1, s1⟩ := w1
  obtain ⟨b2, off2, F2, r2, s2⟩ := w2
  exact lawless_calls a0 len0 cap0 b0 off0 M a1 len1 cap1 b1 off1 F1 a2 len2 cap2 b2 off2 F2 a3 a4 a5 w m3 s1 s2 m2 m1 r1 r2

/-! ### THE ROW's STEP -/
set_option maxRecDepth 100000 in
theorem lifted (os : Os) (started : os.Started) (H : Type) (enc : TypeId × Value → H) :
    ReturnsInHanded {} Trym.checked os 9 .any (Rows.fnRankedMarkingDownOnlyRemovesTheNodeSpec.pre6 enc Trym.prog Trym.f9 Rows.fnRankedMarkingDownOnlyRemovesTheNodeRow.domain false) (Rows.fnRankedMarkingDownOnlyRemovesTheNodeSpec.post enc Trym.prog Trym.f9 false true false false) := by
  refine returnsInHanded_of_change (C := Trym.checked) own started (by kernel_rfl) Trym.func9
    (ChangeSpec.witness6 (enc := enc) (C := Trym.checked) false ⟨#[], #[.slice none 0 0, .slice none 0 0, .slice none 0 0, .bool false, .int .u64 0, .int .i64 0], []⟩ 8 (by kernel_rfl) (by kernel_rfl) (by kernel_rfl) (by kernel_rfl)) ?_
  intro W base args ds gs before hval0 hW hcnd _
  have hval : ∀ (j : Nat) t v, Trym.f9.params[j]? = some t → args[j]? = some v → Value.okWide Trym.prog W .any base t v := hval0
  have hW' := hW
  obtain ⟨p, q, hA0, hV, rfl, hfz, hnd⟩ := hW
  have hA : DataW.TrodAll enc Trym.prog W 0 (fun _ => true) true Trym.f9.params.toList args.toList ds p := hA0
  rw [Trym.params9] at hA hval
  obtain ⟨v0, vs0, d0, ds0, p0, q0, hargs, rfl, rfl, h0, r0⟩ := trodAll_cons hA
  obtain ⟨v1, vs1, d1, ds1, p1, q1, rfl, rfl, rfl, h1, r1⟩ := trodAll_cons r0
  obtain ⟨v2, vs2, d2, ds2, p2, q2, rfl, rfl, rfl, h2, r2⟩ := trodAll_cons r1
  obtain ⟨v3, vs3, d3, ds3, p3, q3, rfl, rfl, rfl, h3, r3⟩ := trodAll_cons r2
  obtain ⟨v4, vs4, d4, ds4, p4, q4, rfl, rfl, rfl, h4, r4⟩ := trodAll_cons r3
  obtain ⟨v5, vs5, d5, ds5, p5, q5, rfl, rfl, rfl, h5, r5⟩ := trodAll_cons r4
  obtain ⟨rfl, rfl, rfl⟩ := trodAll_nil r5
  obtain rfl : args = #[v0, v1, v2, v3, v4, v5] := by cases args; simp_all
  obtain ⟨rfl, rfl⟩ := trodVars_none hV
  obtain ⟨a0, len0, cap0, rfl⟩ := okWide_slice Trym.underlying28 (hval 0 28 v0 rfl rfl)
  have k0 := h0
  have lt0 : ∀ x ∈ p0, x.block < W.heap.size := by obtain ⟨m, hm⟩ := k0; exact DataW.trod_lt m _ _ _ hm
  have w0 : Told W a0 len0 := by obtain ⟨fuel, hf⟩ := h0; exact open_mems hf
  obtain ⟨a1, len1, cap1, rfl⟩ := okWide_slice Trym.underlying29 (hval 1 29 v1 rfl rfl)
  have k1 := h1
  have lt1 : ∀ x ∈ p1, x.block < W.heap.size := by obtain ⟨m, hm⟩ := k1; exact DataW.trod_lt m _ _ _ hm
  have w1 : ToldRow W .i64 a1 len1 := by obtain ⟨fuel, hf⟩ := h1; exact open_row29 hf
  obtain ⟨a2, len2, cap2, rfl⟩ := okWide_slice Trym.underlying23 (hval 2 23 v2 rfl rfl)
  have k2 := h2
  have lt2 : ∀ x ∈ p2, x.block < W.heap.size := by obtain ⟨m, hm⟩ := k2; exact DataW.trod_lt m _ _ _ hm
  have w2 : ToldRow W .u64 a2 len2 := by obtain ⟨fuel, hf⟩ := h2; exact open_row23 hf
  obtain ⟨a3, rfl, rfl, rfl⟩ := open_bool Trym.underlying4 (hval 3 4 v3 rfl rfl) h3
  obtain ⟨a4, rfl, rfl, rfl, w4⟩ := open_int Trym.underlying22 (hval 4 22 v4 rfl rfl) h4
  obtain ⟨a5, rfl, rfl, rfl, w5⟩ := open_int Trym.underlying3 (hval 5 3 v5 rfl rfl) h5
  clear hA0 hval0
  refine (walk a0 len0 cap0 a1 len1 cap1 a2 len2 cap2 a3 a4 a5 W w0 w1 w2 w5).mono fun e W' ⟨he, bel⟩ => ?_
  subst he
  exact ⟨_, rfl, _, _, _, [], _, [], hW', trodAll_mk1 (shut_bool Trym.underlying4 _), (trodAll_cons_mk (Below.trod laidOut (by kernel_rfl) (of_decide_eq_true (by kernel_rfl)) k0 bel lt0) (trodAll_cons_mk (Below.trod laidOut (by kernel_rfl) (of_decide_eq_true (by kernel_rfl)) k1 bel lt1) (trodAll_cons_mk (Below.trod laidOut (by kernel_rfl) (of_decide_eq_true (by kernel_rfl)) k2 bel lt2) (trodAll_cons_mk (shut_bool Trym.underlying4 _) (trodAll_cons_mk (shut_int Trym.underlying22 w4) (trodAll_cons_mk (shut_int Trym.underlying3 w5) trodAll_mk0)))))), rfl, bel.frame _, fun h => by cases h⟩

theorem over : Rows.fnRankedMarkingDownOnlyRemovesTheNodeRow.holds Trym.pinned (OpenSpec.ofChange Rows.fnRankedMarkingDownOnlyRemovesTheNodeSpec) :=
  OpenClaim.holds_of_wide 9 Trym.f9 rfl rfl rfl rfl rfl rfl rfl ⟨rfl, rfl, rfl, rfl, rfl⟩ rfl rfl rfl rfl rfl (by kernel_rfl) Trym.func9 (by kernel_rfl)
    (of_decide_eq_true (by kernel_rfl)) (by unfold Func.isWrapper; first | (rw [if_pos (by decide +kernel)]; kernel_rfl) | (rw [if_neg (by decide +kernel)]; exact ⟨rfl, rfl⟩))
    (fun os started H enc _ => lifted os started H enc)

/-- ████ THE STATEMENT ████ -/
theorem proved : Rows.FnRankedMarkingDownOnlyRemovesTheNodeSaid := over
#print axioms proved
end Go.Proofs.Qxb6600905aMods.fnRankedMarkingDownOnlyRemovesTheNode
