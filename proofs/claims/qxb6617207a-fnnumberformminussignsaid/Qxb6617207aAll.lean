import Derived.Test.Qxb6617207aDig
namespace Go.Proofs.Qxb6617207a
open Go.RowKit
set_option linter.unusedVariables false

set_option maxHeartbeats 400000 in
theorem all_any (a : Option Addr) (l c : Nat) (zs : List Int) (w : World) (hV : View w a l c zs) (hl : l ≤ 2097152) :
    Calls Try.prog 16 #[.slice a l c] w fun e w' => e = .returned (.bool (D.allD zs)) ∧ w = w' := by
  obtain ⟨hz, hlc, hp⟩ := hV
  by_cases h0 : l = 0
  · subst h0
    obtain rfl := List.eq_nil_of_length_eq_zero hz
    have HF : Hid (D.allD [] = false) := rfl
    clear hp
    go_enter Try.func16, Try.ntmps16
    go_wp2
    go_ret
    rw [HF.out]
    exact ⟨rfl, rfl⟩
  · obtain ⟨b, off, rfl, hc⟩ := hp (by omega)
    have HC : Hid (∀ j, j < l → w.cell? ⟨b, off + j, none⟩ = some (.int .u8 (zs.getD j 0))) := hc
    have HZ : Hid (zs.length = l) := hz
    have h0b : ((l : Int) == 0) = false := by simp; omega
    clear hp hz hc
    go_enter Try.func16, Try.ntmps16
    go_wp2_with fail
    go_loop [3] (fun i => ∃ k : Nat, k ≤ l ∧ i = .int .i64 k ∧ Hid (∀ j, j < k → D.isD (zs.getD j 0) = true)) (fun i => l - (intOf i).toNat)
    case atStart => exact ⟨0, Nat.zero_le _, rfl, fun j hj => absurd hj (Nat.not_lt_zero j)⟩
    case round =>
      obtain ⟨k, hk, rfl, HD⟩ := hrel
      by_cases hlt : k < l
      · have hcx := HC.out k hlt
        by_cases hd : D.isD (zs.getD k 0) = true
        · have H0 : Hid (D.isD (zs.getD k 0) = true) := hd
          simp only [D.isD, decide_eq_true_eq] at hd
          generalize zs.getD k 0 = z at hcx hd
          obtain ⟨h1, h2⟩ := hd
          go_wp2
          go_round
          case rel =>
            refine ⟨k + 1, by omega, by go_num, fun j hj => ?_⟩
            rcases Nat.lt_or_ge j k with h | h
            · exact HD.out j h
            · obtain rfl : j = k := by omega
              exact H0.out
          case measure => simp [intOf]; omega
        · have HL : Hid (D.allD zs = false) := D.allD_no (i := k) (by rw [HZ.out]; exact hlt) (by simpa using hd)
          simp only [D.isD, decide_eq_true_eq] at hd
          generalize zs.getD k 0 = z at hcx hd
          by_cases h1 : 48 ≤ z
          · have h2 : 57 < z := by omega
            clear hd
            go_wp2
            go_ret
            rw [HL.out]
            exact ⟨rfl, rfl⟩
          · clear hd
            go_wp2
            go_ret
            rw [HL.out]
            exact ⟨rfl, rfl⟩
      · have HL : Hid (D.allD zs = true) := D.allD_yes (by rw [HZ.out]; omega) (fun i hi => HD.out i (by rw [HZ.out] at hi; omega))
        go_wp2
        go_ret
        rw [HL.out]
        exact ⟨rfl, rfl⟩
end Go.Proofs.Qxb6617207a
