import Derived.Test.Qxb6000909aModsEscWalk
import Derived.Deep.OwnRows
namespace Go.Proofs.Qxb6000909aMods
open Go.RowKit

set_option maxHeartbeats 400000 in
/-- zzBytes on a slice without elements. -/
theorem bytes_empty (a : Option Addr) (cap : Nat) (w : World) :
    Calls Trym.prog 8 #[.slice a 0 cap] w fun e w' => e = .returned (.bool true) ∧ w' = w := by
  go_enter Trym.func8, Trym.ntmps8
  go_wp2
  refine wp_loop_rounds 1 ?_
  rw [rounds_succ]
  go_wp2
  go_ret
  exact ⟨rfl, rfl⟩

set_option maxHeartbeats 400000 in
theorem bytes_calls (b off len cap : Nat) (S : Nat → ByteArray) (w : World) (hlen : len ≤ maxLen)
    (hcell : ∀ i, i < len → w.cell? ⟨b, off + i, none⟩ = some (.string (S i))) (hsz : ∀ i, i < len → (S i).size ≤ maxLen) :
    Calls Trym.prog 8 #[.slice (some ⟨b, off, none⟩) len cap] w fun e w' => (e = .returned (.bool true) ∨ e = .returned (.bool false)) ∧ w' = w := by
  unfold maxLen at hlen hsz
  by_cases hbig : len ≤ 1048576
  · go_enter Trym.func8, Trym.ntmps8
    go_wp2
    go_loop [3, 4] (fun z i => ∃ k m : Nat, k ≤ len ∧ m ≤ 1048576 ∧ i = .int .i64 k ∧ z = .int .i64 m) (fun _ i => len - (intOf i).toNat)
    case atStart => exact ⟨0, len, Nat.zero_le _, hbig, rfl, rfl⟩
    case round =>
      obtain ⟨k, m, hk, hm, rfl, rfl⟩ := hrel
      by_cases hlt : k < len
      · have hc := hcell k hlt
        have hz := hsz k hlt
        clear hcell hsz
        by_cases h1 : (S k).size ≤ 1048576
        · by_cases h2 : m + (S k).size ≤ 1048576
          · go_wp2
            go_round
            case rel => exact ⟨k + 1, m + (S k).size, by omega, h2, by go_num, by go_num⟩
            case measure => simp [intOf]; omega
          · go_wp2
            go_ret
            first | exact ⟨Or.inl rfl, rfl⟩ | exact ⟨Or.inr rfl, rfl⟩
        · go_wp2
          go_ret
          first | exact ⟨Or.inl rfl, rfl⟩ | exact ⟨Or.inr rfl, rfl⟩
      · clear hcell hsz
        go_wp2
        go_ret
        first | exact ⟨Or.inl rfl, rfl⟩ | exact ⟨Or.inr rfl, rfl⟩
  · clear hcell hsz
    go_enter Trym.func8, Trym.ntmps8
    go_wp2
    go_ret
    first | exact ⟨Or.inl rfl, rfl⟩ | exact ⟨Or.inr rfl, rfl⟩
end Go.Proofs.Qxb6000909aMods
