import Derived.Test.Qxb6619687aMath3
import Derived.Test.Qxb6619687aLz
namespace Go.Proofs.Qxb6619687a
open Go.RowKit
set_option linter.unusedVariables false

theorem alph_at_nat (n : Nat) (h : n < (ByteArray.mk #[49, 50, 51, 52, 53, 54, 55, 56, 57, 65, 66, 67, 68, 69, 70, 71, 72, 74, 75, 76, 77, 78, 80, 81, 82, 83, 84, 85, 86, 87, 88, 89, 90, 97, 98, 99, 100, 101, 102, 103, 104, 105, 106, 107, 109, 110, 111, 112, 113, 114, 115, 116, 117, 118, 119, 120, 121, 122]).size) : (((ByteArray.mk #[49, 50, 51, 52, 53, 54, 55, 56, 57, 65, 66, 67, 68, 69, 70, 71, 72, 74, 75, 76, 77, 78, 80, 81, 82, 83, 84, 85, 86, 87, 88, 89, 90, 97, 98, 99, 100, 101, 102, 103, 104, 105, 106, 107, 109, 110, 111, 112, 113, 114, 115, 116, 117, 118, 119, 120, 121, 122])[n]'h).toNat : Int) = M.alphabet.getD n 0 := by
  have h1 := alph_nat ⟨n, h⟩
  have h2 := alph_pos ⟨n, h⟩
  simp only at h1 h2
  rw [h1]
  omega

set_option maxHeartbeats 400000 in
theorem digit_any (c d : Int) (w : World) (h0 : 0 ≤ d) (h1 : d < 58) (hc : c = M.alph d) :
    Calls Try.prog 10 #[.int .u8 c] w fun e w' => e = .returned (.int .i64 d) ∧ w' = w := by
  obtain ⟨n, rfl⟩ := Int.eq_ofNat_of_zero_le h0
  have HC : Hid (c = M.alph n) := hc
  clear hc
  go_enter Try.func10, Try.ntmps10
  go_wp2
  go_loop [3] (fun i => ∃ k : Nat, k ≤ n ∧ i = .int .i64 k) (fun i => n - (intOf i).toNat)
  case atStart => exact ⟨0, Nat.zero_le _, rfl⟩
  case round =>
    obtain ⟨k, hk, rfl⟩ := hrel
    have e := alph_at_nat k (show k < 58 by omega)
    by_cases hlt : k < n
    · have hne : ((((ByteArray.mk #[49, 50, 51, 52, 53, 54, 55, 56, 57, 65, 66, 67, 68, 69, 70, 71, 72, 74, 75, 76, 77, 78, 80, 81, 82, 83, 84, 85, 86, 87, 88, 89, 90, 97, 98, 99, 100, 101, 102, 103, 104, 105, 106, 107, 109, 110, 111, 112, 113, 114, 115, 116, 117, 118, 119, 120, 121, 122])[k]'(show k < 58 by omega)).toNat : Int) == c) = false := by
        rw [e, HC.out]
        simpa using M.alph_ne h0 h1 (i := k) (by omega)
      clear e
      go_wp2
      go_round
      case rel => exact ⟨k + 1, by omega, by go_num⟩
      case measure => simp [intOf]; omega
    · obtain rfl : k = n := by omega
      have heq : ((((ByteArray.mk #[49, 50, 51, 52, 53, 54, 55, 56, 57, 65, 66, 67, 68, 69, 70, 71, 72, 74, 75, 76, 77, 78, 80, 81, 82, 83, 84, 85, 86, 87, 88, 89, 90, 97, 98, 99, 100, 101, 102, 103, 104, 105, 106, 107, 109, 110, 111, 112, 113, 114, 115, 116, 117, 118, 119, 120, 121, 122])[k]'(show k < 58 by omega)).toNat : Int) == c) = true := by
        rw [e, HC.out]
        simp [M.alph]
      clear e
      go_wp2
      go_ret
      exact ⟨rfl, rfl⟩
end Go.Proofs.Qxb6619687a
