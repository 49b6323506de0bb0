import Derived.Test.Qxb6000909aModsCutWalk
namespace Go.Proofs.Qxb6000909aMods
open Go.RowKit

set_option maxHeartbeats 400000 in
theorem cut_below (s : ByteArray) (n0 : Nat) (w : World) (hs : s.size ≤ 4611686018427387904) :
    Calls Trym.prog 16 #[.string s] w fun e w' =>
      ((∃ k, Cut.cutPos s.data.toList = some k ∧ e = .returned (.tuple #[.string (s.extract 0 k), .string (s.extract (k + 1) s.size)])) ∨
       (Cut.cutPos s.data.toList = none ∧ e = .returned (.tuple #[.string s, .string ByteArray.empty]))) ∧ Below (w.heap.size + n0) w w' := by
  go_enter Trym.func16, Trym.ntmps16
  go_wp2
  go_loop [4] (fun i => ∃ k : Nat, k ≤ s.size + 1 ∧ i = .int .i64 k ∧ Cut.At s.data.toList k) (fun i => s.size + 1 - (intOf i).toNat)
  case atStart => exact ⟨0, Nat.zero_le _, rfl, Cut.at_zero _⟩
  case round =>
    obtain ⟨k, hk, rfl, hat⟩ := hrel
    by_cases hlt : k < s.size
    · have hlt' : k < s.data.toList.length := by simpa using hlt
      by_cases h92 : ((s[k].toNat : Int) == 92) = true
      · go_wp2
        go_round
        case rel => exact ⟨k + 2, by omega, by go_num, Cut.at_esc hat hlt' (byte_eq (n := 92) (by omega) h92)⟩
        case measure => simp [intOf]; omega
      · have h92' : ((s[k].toNat : Int) == 92) = false := by simpa using h92
        by_cases h38 : ((s[k].toNat : Int) == 38) = true
        · go_wp2
          go_region
          all_goals (go_wp2; go_ret2)
          all_goals exact ⟨Or.inl ⟨k, Cut.at_hit hat hlt' (byte_eq (n := 38) (by omega) h38), rfl⟩, Below.drew (Below.refl _ _)⟩
        · have h38' : ((s[k].toNat : Int) == 38) = false := by simpa using h38
          go_wp2
          go_round
          case rel => exact ⟨k + 1, by omega, by go_num, Cut.at_other hat hlt' (byte_ne (n := 38) (by omega) h38') (byte_ne (n := 92) (by omega) h92')⟩
          case measure => simp [intOf]; omega
    · go_wp2
      go_ret2
      exact ⟨Or.inr ⟨Cut.at_end hat (by simpa using hlt), rfl⟩, Below.refl _ _⟩

set_option maxHeartbeats 400000 in
theorem zzcut_below (s : ByteArray) (n0 : Nat) (w : World) (hs : s.size ≤ 4611686018427387904) :
    Calls Trym.prog 10 #[.string s] w fun e w' => ∃ r t, e = .returned (.tuple #[.string r, .string t]) ∧ CutIs s r t ∧ Below (w.heap.size + n0) w w' := by
  go_enter Trym.func10, Trym.ntmps10
  go_wp2_with fail
  refine (cut_below s n0 _ hs).mono ?_
  rintro e w1 ⟨(⟨k, hk, rfl⟩ | ⟨hk, rfl⟩), hg⟩
  · go_wp2
    go_ret2
    exact ⟨_, _, rfl, cutIs_some s k hk, hg⟩
  · go_wp2
    go_ret2
    exact ⟨_, _, rfl, Or.inr ⟨hk, rfl, rfl⟩, hg⟩

end Go.Proofs.Qxb6000909aMods
