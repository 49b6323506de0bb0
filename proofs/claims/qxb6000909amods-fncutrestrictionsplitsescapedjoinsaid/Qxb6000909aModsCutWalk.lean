import Derived.Test.Qxb6000909aModsRows
import Derived.Test.Qxb6000909aModsCutPlain
import Derived.WalkKit
import Derived.WalkSpells
import Derived.WalkLawsBesides
namespace Go.Proofs.Qxb6000909aMods
open Go.RowKit

theorem byte_eq {c : UInt8} {n : Nat} (hn : n < 256) (h : ((c.toNat : Int) == (n : Int)) = true) : c = UInt8.ofNat n := by
  have h' : (c.toNat : Int) = n := by simpa using h
  apply UInt8.toNat_inj.1; simp; omega
theorem byte_ne {c : UInt8} {n : Nat} (hn : n < 256) (h : ((c.toNat : Int) == (n : Int)) = false) : c ≠ UInt8.ofNat n := by
  intro e; subst e; simp at h; omega

set_option maxHeartbeats 400000 in
theorem cut_calls (s : ByteArray) (w : World) (hs : s.size ≤ 4611686018427387904) :
    Calls Trym.prog 16 #[.string s] w fun e w' =>
      ((∃ k, Cut.cutPos s.data.toList = some k ∧ e = .returned (.tuple #[.string (s.extract 0 k), .string (s.extract (k + 1) s.size)])) ∨
       (Cut.cutPos s.data.toList = none ∧ e = .returned (.tuple #[.string s, .string ByteArray.empty]))) ∧ Grown w w' := by
  go_enter Trym.func16, Trym.ntmps16
  go_wp2
  go_loop [4] (fun i => ∃ k : Nat, k ≤ s.size + 1 ∧ i = .int .i64 k ∧ Cut.At s.data.toList k) (fun i => s.size + 1 - (intOf i).toNat)
  case atStart => exact ⟨0, Nat.zero_le _, rfl, Cut.at_zero _⟩
  case round =>
    obtain ⟨k, hk, rfl, hat⟩ := hrel
    by_cases hlt : k < s.size
    · have hlt' : k < s.data.toList.length := by simpa using hlt
      by_cases h92 : ((s[k].toNat : Int) == 92) = true
      · go_wp2
        go_round
        case rel => exact ⟨k + 2, by omega, by go_num, Cut.at_esc hat hlt' (byte_eq (n := 92) (by omega) h92)⟩
        case measure => simp [intOf]; omega
      · have h92' : ((s[k].toNat : Int) == 92) = false := by simpa using h92
        by_cases h38 : ((s[k].toNat : Int) == 38) = true
        · go_wp2
          go_region
          all_goals (go_wp2; go_ret2)
          all_goals exact ⟨Or.inl ⟨k, Cut.at_hit hat hlt' (byte_eq (n := 38) (by omega) h38), rfl⟩, Grown.drew (Grown.refl _)⟩
        · have h38' : ((s[k].toNat : Int) == 38) = false := by simpa using h38
          go_wp2
          go_round
          case rel => exact ⟨k + 1, by omega, by go_num, Cut.at_other hat hlt' (byte_ne (n := 38) (by omega) h38') (byte_ne (n := 92) (by omega) h92')⟩
          case measure => simp [intOf]; omega
    · go_wp2
      go_ret2
      exact ⟨Or.inr ⟨Cut.at_end hat (by simpa using hlt), rfl⟩, Grown.refl _⟩

/-- What ZZcutRestriction answers of 's': 'r' and 't'. -/
def CutIs (s r t : ByteArray) : Prop :=
  (Cut.cutPos s.data.toList = some r.size ∧ s.data.toList = r.data.toList ++ 38 :: t.data.toList ∧ Cut.cutPos r.data.toList = none ∧ r.size < s.size ∧ s.size = r.size + 1 + t.size ∧
    ∀ x, Cut.cutPos (r.data.toList ++ 38 :: x) = some r.size) ∨
  (Cut.cutPos s.data.toList = none ∧ r = s ∧ t = ByteArray.empty)

theorem ext_data (s : ByteArray) (a b : Nat) : (s.extract a b).data.toList = (s.data.toList.drop a).take (b - a) := by
  rw [ByteArray.data_extract, Array.toList_extract, List.extract_eq_take_drop]

theorem cutIs_some (s : ByteArray) (k : Nat) (h : Cut.cutPos s.data.toList = some k) : CutIs s (s.extract 0 k) (s.extract (k + 1) s.size) := by
  obtain ⟨a1, a2, a3, a4⟩ := Cut.cutPos_law _ _ _ (Nat.le_refl _) h
  have hk : k < s.size := by simpa using a2
  have e0 : (s.extract 0 k).size = k := by rw [ByteArray.size_extract]; omega
  have e1 : (s.extract 0 k).data.toList = s.data.toList.take k := by rw [ext_data]; simp
  have e2 : (s.extract (k + 1) s.size).data.toList = s.data.toList.drop (k + 1) := by
    rw [ext_data, List.take_of_length_le]; rw [List.length_drop, Array.length_toList]; exact Nat.le_refl _
  refine Or.inl ⟨by rw [e0]; exact h, by rw [e1, e2]; exact a1, by rw [e1]; exact a3, by omega, ?_, by rw [e0, e1]; exact a4⟩
  rw [e0, ByteArray.size_extract]; omega

set_option maxHeartbeats 400000 in
theorem zzcut_calls (s : ByteArray) (w : World) (hs : s.size ≤ 4611686018427387904) :
    Calls Trym.prog 10 #[.string s] w fun e w' => ∃ r t, e = .returned (.tuple #[.string r, .string t]) ∧ CutIs s r t ∧ Grown w w' := by
  go_enter Trym.func10, Trym.ntmps10
  go_wp2_with fail
  refine (cut_calls s _ hs).mono ?_
  rintro e w1 ⟨(⟨k, hk, rfl⟩ | ⟨hk, rfl⟩), hg⟩
  · go_wp2
    go_ret2
    exact ⟨_, _, rfl, cutIs_some s k hk, hg⟩
  · go_wp2
    go_ret2
    exact ⟨_, _, rfl, Or.inr ⟨hk, rfl, rfl⟩, hg⟩

theorem grown_trans {a b c : World} (h1 : Grown a b) (h2 : Grown b c) : Grown a c :=
  ⟨World.keptBut_trans h1.1 h2.1, fun x => (h2.2.1 x).trans (h1.2.1 x), Nat.le_trans h1.2.2 h2.2.2⟩
end Go.Proofs.Qxb6000909aMods
