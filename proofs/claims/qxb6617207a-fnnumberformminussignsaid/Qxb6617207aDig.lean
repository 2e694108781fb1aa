import Derived.Test.Qxb6617207aArg
import Derived.Test.Qxb6617207aNum
namespace Go.Proofs.Qxb6617207a
open Go.RowKit
set_option linter.unusedVariables false

/-- a slice of bytes that reads as zs -/
def View (w : World) (a : Option Addr) (l c : Nat) (zs : List Int) : Prop :=
  zs.length = l ∧ l ≤ c ∧ (0 < l → ∃ b off, a = some ⟨b, off, none⟩ ∧ ∀ j, j < l → w.cell? ⟨b, off + j, none⟩ = some (.int .u8 (zs.getD j 0)))

theorem View.drop {w : World} {a a' : Option Addr} {l c i : Nat} {zs : List Int} (h : View w a l c zs) (hi : i ≤ l) (ha : a' = if c = i then a else a.map (fun x => x.add i)) : View w a' (l - i) (c - i) (zs.drop i) := by
  refine ⟨by rw [List.length_drop, h.1], by have := h.2.1; omega, fun hp => ?_⟩
  obtain ⟨b, off, rfl, hc⟩ := h.2.2 (by omega)
  refine ⟨b, off + i, ?_, fun j hj => ?_⟩
  · rw [ha, if_neg (by have := h.2.1; omega)]
    simp [Addr.add]
  · rw [Nat.add_assoc, hc (i + j) (by omega)]
    simp [List.getD]
theorem View.take {w : World} {a a' : Option Addr} {l c k : Nat} {zs : List Int} (h : View w a l c zs) (hk : k ≤ l) (ha : 0 < l → a' = a) : View w a' k c (zs.take k) := by
  refine ⟨by rw [List.length_take, h.1]; omega, by have := h.2.1; omega, fun hp => ?_⟩
  obtain ⟨b, off, rfl, hc⟩ := h.2.2 (by omega)
  refine ⟨b, off, ha (by omega), fun j hj => ?_⟩
  rw [hc j (by omega)]
  simp [List.getD, hj]
/-- nothing is left: wherever it points -/
theorem view_none {w : World} {a : Option Addr} {l c i : Nat} {zs : List Int} (hz : zs.length = l) (hi : l ≤ i) : View w a (l - i) c (zs.drop i) :=
  ⟨by rw [List.length_drop, hz], by omega, fun h => absurd h (by omega)⟩
/-- the rest from i on -/
theorem view_rest {w : World} {b off l c i : Nat} {zs : List Int} (h : View w (some ⟨b, off, none⟩) l c zs) (hi : i ≤ l) (hic : ¬ c = i) : View w (some ⟨b, off + i, none⟩) (l - i) (c - i) (zs.drop i) :=
  h.drop hi (by rw [if_neg hic]; simp [Addr.add])
theorem view_zero (w : World) (a : Option Addr) (c : Nat) : View w a 0 c [] := ⟨rfl, Nat.zero_le _, fun h => absurd h (by omega)⟩
theorem view_nil (w : World) : View w none 0 0 [] := ⟨rfl, Nat.le_refl _, fun h => absurd h (by omega)⟩

set_option maxHeartbeats 400000 in
theorem digits_any (a : Option Addr) (l c : Nat) (zs : List Int) (w : World) (hV : View w a l c zs) (hl : l ≤ 2097152) :
    Calls Try.prog 18 #[.slice a l c] w fun e w' => e = .returned (.int .i64 (D.digs zs)) ∧ w = w' := by
  obtain ⟨hz, hlc, hp⟩ := hV
  have HP : Hid (0 < l → ∃ b off, a = some ⟨b, off, none⟩ ∧ ∀ j, j < l → w.cell? ⟨b, off + j, none⟩ = some (.int .u8 (zs.getD j 0))) := hp
  have HZ : Hid (zs.length = l) := hz
  clear hp hz
  go_enter Try.func18, Try.ntmps18
  go_upto_block 0 with fail
  go_cut [3] from 4 to 23 (fun v wx => w = wx ∧ v = .int .i64 (D.digs zs))
  case first =>
    go_wp2_with fail
    go_loop [3] (fun i => ∃ k : Nat, k ≤ l ∧ i = .int .i64 k ∧ Hid (∀ j, j < k → D.isD (zs.getD j 0) = true)) (fun i => l - (intOf i).toNat)
    case atStart => exact ⟨0, Nat.zero_le _, rfl, fun j hj => absurd hj (Nat.not_lt_zero j)⟩
    case round =>
      obtain ⟨k, hk, rfl, HD⟩ := hrel
      by_cases hlt : k < l
      · obtain ⟨b, off, rfl, hc⟩ := HP.out (by omega)
        have hcx := hc k hlt
        clear hc
        by_cases h0 : D.isD (zs.getD k 0) = true
        · have H0 : Hid (D.isD (zs.getD k 0) = true) := h0
          simp only [D.isD, decide_eq_true_eq] at h0
          generalize zs.getD k 0 = z at hcx h0
          obtain ⟨h1, h2⟩ := h0
          go_wp2
          go_round
          case rel =>
            refine ⟨k + 1, by omega, by go_num, fun j hj => ?_⟩
            rcases Nat.lt_or_ge j k with h | h
            · exact HD.out j h
            · obtain rfl : j = k := by omega
              exact H0.out
          case measure => simp [intOf]; omega
        · have HL : Hid (D.digs zs = k) := D.digs_eq zs k (by rw [HZ.out]; omega) HD.out (fun _ => by simpa using h0)
          simp only [D.isD, decide_eq_true_eq] at h0
          generalize zs.getD k 0 = z at hcx h0
          by_cases h1 : 48 ≤ z
          · have h2 : 57 < z := by omega
            clear h0
            go_wp2
            go_meet
            exact ⟨rfl, by rw [HL.out]⟩
          · clear h0
            go_wp2
            go_meet
            exact ⟨rfl, by rw [HL.out]⟩
      · have HL : Hid (D.digs zs = k) := D.digs_eq zs k (by rw [HZ.out]; omega) HD.out (fun h => absurd h (by rw [HZ.out]; omega))
        go_wp2
        go_meet
        exact ⟨rfl, by rw [HL.out]⟩
  case rest =>
    obtain ⟨rfl, rfl⟩ := hcut
    go_wp2
    go_ret
    exact ⟨rfl, rfl⟩
end Go.Proofs.Qxb6617207a
