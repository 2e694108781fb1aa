import Derived.Test.Qxb6617207aCp
import Derived.Test.Qxb6617207aPat2
namespace Go.Proofs.Qxb6617207a
open Go.RowKit
set_option linter.unusedVariables false

theorem Pt.below {w w' : World} {B B0 : Nat} {v : Value} {C : List Int} (h : Pt w B v C) (hb : Below B0 w w') (hB : w.heap.size ≤ B0) : Pt w' B v C := by
  rcases h with h | ⟨g, cp, h1, h2⟩
  · exact .inl h
  · exact .inr ⟨g, cp, h1, Own.kept h2 (row := none) ⟨hb.os, hb.tape, hb.output, hb.size, fun k hk _ => hb.block k (by omega)⟩ (by simp)⟩

set_option maxHeartbeats 1600000 in
set_option maxRecDepth 100000 in
theorem fl_walk (a : Option Addr) (len cap : Nat) (zs : List Int) (w : World) (hl : len ≤ 1048576) (hA : Arg w a len cap zs) :
    Calls Try.prog 6 #[.slice a len cap] w fun e w' => e = .returned (.bool true) ∧ Below w.heap.size w w' := by
  obtain ⟨i0, hi, hz0, hz1, hz2⟩ := info_parts Try.info5
  obtain ⟨hz, hlc, hnil, hcell, hr⟩ := hA
  have HCELL : Hid (∀ x, a = some x → ∀ j, j < len → w.cell? (x.add j) = some (.int .u8 (zs.getD j 0))) := hcell
  have HR : Hid (∀ j, 0 ≤ zs.getD j 0 ∧ zs.getD j 0 ≤ 255) := hr
  clear hcell hr
  have hneq := fun wx => run_neq_slice_nil_any (P := Try.prog) wx 22 5 a len cap 0 0 Try.underlying22
  go_enter Try.func6, Try.ntmps6
  go_upto_if 20 with (go_at_call 14; go_in)
  go_cut [0, 3] from 13 to 27 (fun v1 v5 wc => Copied w wc v1 zs)
  case first =>
    cases a with
    | none =>
      obtain ⟨rfl, rfl⟩ := hnil rfl
      go_wp2
      go_meet
      exact copied_nil (List.eq_nil_of_length_eq_zero hz)
    | some x =>
      clear hnil
      go_wp2_with (first
        | (refine wpList_make_full _ rfl _ _ 22 rfl w.heap.size 5 i0 (.int .u8 0) 1 Try.underlying22 hi hz0 hz1 .i64 .i64 _ _ len rfl rfl rfl rfl (by rw [hz2]; omega) (by unfold maxLen; omega) (Nat.le_refl _) ?_; intro w1 hown1 hgr1)
        | (refine wpList_copy_splice rfl (.tmp 24) (.tmp 25) 22 22 rfl 5 Try.underlying22 (by rw [hi]; simp [hz1]) _ _ _ _ _ _ rfl rfl w.heap.size 0 ((List.replicate len (0 : Int)).map (Value.int .u8)) 5 (copy_block hown1) (zs.map (Value.int .u8)) (by simp [hz]) (copy_src HCELL.out hz hgr1 rfl) (by simp [hz]) (ints_oneCell _ _) w.heap.size w ((Below.refl _ _).grown hgr1 (Nat.le_refl _) (fun _ h => by cases h)) (Nat.le_refl _) ?_; intro w2 HG2 hB2))
      go_meet
      subst hz
      exact copied_made (by unfold maxLen; omega) hB2 (Nat.le_refl _) HG2.out
  case rest =>
    obtain ⟨B1, a1, b1, off1, cap1, rfl, hlc1, han1, ha1, hb1, hc1⟩ := hcut
    clear hneq hnil HCELL hlc
    have HC1 : Hid (∀ j, j < zs.length → wc.cell? ⟨b1, off1 + j, none⟩ = some (.int .u8 (zs.getD j 0))) := hc1
    have HA1 : Hid (0 < zs.length → a1 = some ⟨b1, off1, none⟩) := ha1
    have HN1 : Hid (a1 = none → cap1 = 0) := han1
    have HB1 : Hid (0 < zs.length → b1 < wc.heap.size) := hb1
    clear hc1 ha1 han1 hb1
    subst hz
    go_wp2_with fail
    refine (parts_any a1 b1 off1 zs.length cap1 zs true wc HB1.out (by omega) rfl HA1.out HC1.out).mono ?_
    rintro e w4 ⟨v1, rfl, hP1, B4⟩
    go_wp2_with fail
    have B4s := B4.size
    refine (parts_any a1 b1 off1 zs.length cap1 zs false w4 (fun h => Nat.lt_of_lt_of_le (HB1.out h) B4s) (by omega) rfl HA1.out
      (fun j hj => (B4.cell (p := ⟨b1, off1 + j, none⟩) (HB1.out (by omega))).trans (HC1.out j hj))).mono ?_
    rintro e w5 ⟨v2, rfl, hP2, B5⟩
    have hP1' := hP1.below B5 (Nat.le_refl _)
    have B45 : Below wc.heap.size wc w5 := B4.trans (B5.mono B4s)
    have HCNT : Hid (P.cnt (P.cols (P.runes (strOfNums zs) (strOfNums zs).size 0)) = P.runs false zs) := P.cnt_runs zs HR.out
    have hss : (P.cols (P.runes (strOfNums zs) (strOfNums zs).size 0)).length ≤ 1048576 := by
      have h1 := P.cols_length (P.runes (strOfNums zs) (strOfNums zs).size 0) _ (Nat.le_refl _)
      rw [List.take_of_length_le (Nat.le_refl _)] at h1
      have h2 := P.runes_length (strOfNums zs) (strOfNums zs).size 0
      rw [strOfNums_size] at h1 h2
      rw [strOfNums_size]
      omega
    have HNA := P.noAdj_cols (P.runes (strOfNums zs) (strOfNums zs).size 0)
    clear hP1 B4 B5
    generalize P.cols (P.runes (strOfNums zs) (strOfNums zs).size 0) = C at *
    obtain ⟨a4, g4, cp4, rfl, HP4⟩ := hP1'.opened
    obtain ⟨a6, g6, cp6, rfl, HP6⟩ := hP2.opened
    clear hP1' hP2
    go_wp2_with fail
    go_loopw [8] (fun v8 wr => ∃ n : Nat, n ≤ C.length ∧ v8 = .int .i64 n ∧ Hid (0 < C.length → a4 = some ⟨g4, 0, none⟩ ∧ Own 21 .i32 wr (wc.heap.size + 2) g4 cp4 C) ∧
        Hid (0 < C.length → a6 = some ⟨g6, 0, none⟩ ∧ Own 21 .i32 wr (w4.heap.size + 2) g6 cp6 C) ∧ Below wc.heap.size wc wr)
      (fun v8 _ => C.length - (intOf v8).toNat)
    case atStart => exact ⟨0, Nat.zero_le _, rfl, HP4, HP6, B45⟩
    case round =>
      clear HP4 HP6 B45
      obtain ⟨n, hn, rfl, HP4, HP6, hB⟩ := hrel
      by_cases hlt : n < C.length
      · obtain ⟨rfl, O4⟩ := HP4.out (by omega)
        obtain ⟨rfl, O6⟩ := HP6.out (by omega)
        have hc4 := O4.cell hlt
        have hc6 := O6.cell hlt
        generalize C.getD n 0 = z at hc4 hc6
        have hi1 : (n : Int) < (C.length : Int) := by omega
        go_wp2_with fail
        go_quiet (fail)
        go_wp2
        go_roundw
        case rel => exact ⟨n + 1, by omega, by go_num, HP4, HP6, below_drewN hB _⟩
        case measure => simp [intOf]; omega
      · clear HP6
        go_wp2_with fail
        obtain ⟨wo, rfl⟩ : ∃ wo : World, wo = wr := ⟨_, rfl⟩
        go_loop [9, 10] (fun v9 v10 => ∃ k : Nat, k ≤ C.length ∧ v10 = .int .i64 k ∧ v9 = .int .i64 (P.cnt (C.take k))) (fun _ v10 => C.length - (intOf v10).toNat)
        case atStart => exact ⟨0, Nat.zero_le _, rfl, by simp [P.cnt]⟩
        case round =>
          obtain ⟨k, hk, rfl, rfl⟩ := hrel
          have hcl := P.cnt_take_le C k
          by_cases hlt2 : k < C.length
          · obtain ⟨rfl, O4⟩ := HP4.out (by omega)
            have hc4 := O4.cell hlt2
            have hi1 : (k : Int) < (C.length : Int) := by omega
            by_cases hz : C.getD k 0 = 37
            · have HC : Hid (P.cnt (C.take (k + 1)) = P.cnt (C.take k) + 1) := P.cnt_take_yes hlt2 hz
              rw [hz] at hc4
              by_cases hk0 : 0 < k
              · have hcp := O4.cell (j := k - 1) (by omega)
                have hna := HNA (k - 1) (by omega)
                rw [show k - 1 + 1 = k by omega] at hna
                have hy : C.getD (k - 1) 0 ≠ 37 := fun e => hna ⟨e, hz⟩
                clear hna hz
                generalize C.getD (k - 1) 0 = y at hcp hy
                have hyb : (y == 37) = false := by simpa using hy
                have ht1 : ((k : Int) - 1).toNat = k - 1 := by omega
                have hi2 : (0 : Int) < (k : Int) := by omega
                clear hy
                go_wp2
                go_round
                case rel => exact ⟨k + 1, by omega, by go_num, by rw [HC.out]; go_num⟩
                case measure => simp [intOf]; omega
              · clear hz
                go_wp2
                go_round
                case rel => exact ⟨k + 1, by omega, by go_num, by rw [HC.out]; go_num⟩
                case measure => simp [intOf]; omega
            · have HC : Hid (P.cnt (C.take (k + 1)) = P.cnt (C.take k)) := P.cnt_take_no hlt2 hz
              generalize C.getD k 0 = z at hc4 hz
              have hzb : (z == 37) = false := by simpa using hz
              clear hz
              go_wp2
              go_round
              case rel => exact ⟨k + 1, by omega, by go_num, by rw [HC.out]⟩
              case measure => simp [intOf]; omega
          · obtain rfl : k = C.length := by omega
            have hfull2 : P.cnt (C.take C.length) = P.cnt C := by rw [List.take_of_length_le (Nat.le_refl _)]
            rw [hfull2]
            clear hfull2
            clear HP4
            go_wp2_with fail
            go_loop [11, 12] (fun v11 v12 => ∃ k : Nat, k ≤ zs.length ∧ v12 = .int .i64 k ∧ v11 = .int .i64 (P.runs false (zs.take k))) (fun _ v12 => zs.length - (intOf v12).toNat)
            case atStart => exact ⟨0, Nat.zero_le _, rfl, by simp [P.runs]⟩
            case round =>
              obtain ⟨k, hk3, rfl, rfl⟩ := hrel
              have hrl := P.runs_take_le zs k
              by_cases hlt3 : k < zs.length
              · obtain rfl := HA1.out (by omega)
                have hck := (hB.cell (p := ⟨b1, off1 + k, none⟩) (HB1.out (by omega))).trans (HC1.out k hlt3)
                have hi1 : (k : Int) < (zs.length : Int) := by omega
                by_cases hz : zs.getD k 0 = 37
                · rw [hz] at hck
                  by_cases hk0 : k = 0
                  · subst hk0
                    have HC : Hid (P.runs false (zs.take 1) = P.runs false [] + 1) := P.runs_take_yes hlt3 hz (.inl rfl)
                    clear hz
                    rw [Nat.add_zero] at hck
                    have hrl2 : P.runs false [] ≤ 0 := hrl
                    go_wp2
                    go_round
                    case rel => exact ⟨1, by omega, by go_num, by rw [HC.out]; go_num⟩
                    case measure => simp [intOf]; omega
                  · have hcp := (hB.cell (p := ⟨b1, off1 + (k - 1), none⟩) (HB1.out (by omega))).trans (HC1.out (k - 1) (by omega))
                    have hkb : ((k : Int) == 0) = false := by simp; omega
                    have hkp : (0 : Int) < (k : Int) := by omega
                    have ht1 : ((k : Int) - 1).toNat = k - 1 := by omega
                    by_cases hy : zs.getD (k - 1) 0 = 37
                    · have HC : Hid (P.runs false (zs.take (k + 1)) = P.runs false (zs.take k)) := P.runs_take_no hlt3 (fun h => by rcases h.2 with h2 | h2; exact hk0 h2; exact h2 hy)
                      rw [hy] at hcp
                      clear hz hy hk0
                      go_wp2
                      go_round
                      case rel => exact ⟨k + 1, by omega, by go_num, by rw [HC.out]⟩
                      case measure => simp [intOf]; omega
                    · have HC : Hid (P.runs false (zs.take (k + 1)) = P.runs false (zs.take k) + 1) := P.runs_take_yes hlt3 hz (.inr hy)
                      generalize zs.getD (k - 1) 0 = y at hcp hy
                      have hyb : (y != 37) = true := by simpa using hy
                      clear hz hy hk0
                      go_wp2
                      go_round
                      case rel => exact ⟨k + 1, by omega, by go_num, by rw [HC.out]; go_num⟩
                      case measure => simp [intOf]; omega
                · have HC : Hid (P.runs false (zs.take (k + 1)) = P.runs false (zs.take k)) := P.runs_take_no hlt3 (fun h => hz h.1)
                  generalize zs.getD k 0 = z at hck hz
                  have hzb : (z == 37) = false := by simpa using hz
                  clear hz
                  go_wp2
                  go_round
                  case rel => exact ⟨k + 1, by omega, by go_num, by rw [HC.out]⟩
                  case measure => simp [intOf]; omega
              · obtain rfl : k = zs.length := by omega
                have hfull : P.runs false (zs.take zs.length) = P.runs false zs := by rw [List.take_of_length_le (Nat.le_refl _)]
                rw [hfull, HCNT.out]
                clear hfull
                go_wp2
                go_ret
                exact ⟨rfl, B1.trans (hB.mono B1.size)⟩

set_option maxHeartbeats 400000 in
theorem fl_out (a : Option Addr) (len cap : Nat) (w : World) (hl : len ≤ maxLen) (h : 1048576 < len) :
    Calls Try.prog 6 #[.slice a len cap] w fun e w' => e = .returned (.bool true) ∧ Below w.heap.size w w' := by
  unfold maxLen at hl
  go_enter Try.func6, Try.ntmps6
  go_wp2
  go_ret
  exact ⟨rfl, Below.refl _ _⟩
end Go.Proofs.Qxb6617207a
