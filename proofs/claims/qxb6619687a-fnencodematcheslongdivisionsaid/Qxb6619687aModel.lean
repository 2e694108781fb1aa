import Derived.Test.Qxb6619687aEnc
import Derived.Test.Qxb6619687aMath2
namespace Go.Proofs.Qxb6619687a
open Go.RowKit
set_option linter.unusedVariables false

set_option maxHeartbeats 1600000 in
set_option maxRecDepth 100000 in
theorem model_any (a : Option Addr) (b off len cap : Nat) (zs : List Int) (w : World) (hb : 0 < len → b < w.heap.size) (hlc : len ≤ cap) (hl : len ≤ 8192) (hz : zs.length = len)
    (ha : 0 < len → a = some ⟨b, off, none⟩)
    (hc : ∀ j, j < len → w.cell? ⟨b, off + j, none⟩ = some (.int .u8 (zs.getD j 0))) (hr : ∀ j, 0 ≤ zs.getD j 0 ∧ zs.getD j 0 ≤ 255) :
    Calls Try.prog 7 #[.slice a len cap] w fun e w' => ∃ ts, e = .returned (.string (strOfNums ts)) ∧ M.EncText zs ts ∧ Below w.heap.size w w' := by
  obtain ⟨i0, hi, hz0, hz1, hz2⟩ := info_parts Try.info5
  go_enter Try.func7, Try.ntmps7
  go_upto_block 0 with fail
  go_cut [4] from 20 to 31 (fun z wc => w = wc ∧ ∃ k : Nat, z = .int .i64 k ∧ M.lz zs = k)
  case first =>
    go_wp2_with fail
    go_loop [4] (fun i => ∃ k : Nat, k ≤ len ∧ i = .int .i64 k ∧ Hid (∀ j, j < k → zs.getD j 0 = 0)) (fun i => len - (intOf i).toNat)
    case atStart => exact ⟨0, Nat.zero_le _, rfl, fun j hj => absurd hj (Nat.not_lt_zero j)⟩
    case round =>
      obtain ⟨k, hk, rfl, HZ⟩ := hrel
      by_cases hkl : k < len
      · obtain rfl := ha (by omega)
        have hcx := hc k hkl
        clear hc
        by_cases h0 : zs.getD k 0 = 0
        · rw [h0] at hcx
          have H0 : Hid (zs.getD k 0 = 0) := h0
          clear h0
          go_wp2
          go_round
          case rel =>
            refine ⟨k + 1, by omega, by go_num, fun j hj => ?_⟩
            rcases Nat.lt_or_ge j k with h | h
            · exact HZ.out j h
            · obtain rfl : j = k := by omega
              exact H0.out
          case measure => simp [intOf]; omega
        · have HL : Hid (M.lz zs = k) := M.lz_eq zs k (by omega) HZ.out (fun _ => h0)
          generalize zs.getD k 0 = z at hcx h0
          have h0b : (z == 0) = false := by simpa using h0
          clear h0
          go_wp2
          go_meet
          exact ⟨rfl, k, rfl, HL.out⟩
      · clear hc
        have HL : Hid (M.lz zs = k) := M.lz_eq zs k (by omega) HZ.out (fun h => absurd h (by omega))
        go_wp2
        go_meet
        exact ⟨rfl, k, rfl, HL.out⟩
  case rest =>
    obtain ⟨rfl, k, rfl, hk0⟩ := hcut
    have HK : Hid (M.lz zs = k) := hk0
    have hkl : k ≤ len := by have := M.lz_le zs; omega
    clear hk0
    obtain ⟨m, hm⟩ : ∃ m, m = len - k := ⟨_, rfl⟩
    have hm1 : m + k ≤ len := by omega
    have hm2 : len ≤ m + k := by omega
    have hmi : (len : Int) - (k : Int) = (m : Int) := by omega
    obtain ⟨ys, hys⟩ : ∃ ys, ys = zs.drop k := ⟨_, rfl⟩
    have hyl : ys.length = m := by rw [hys, List.length_drop, hz, hm]
    have HYC : Hid (∀ j, j < m → w.cell? ⟨b, off + (k + j), none⟩ = some (.int .u8 (ys.getD j 0))) := by
      intro j hj
      rw [hys, hc (k + j) (by omega)]
      simp [List.getD]
    have HYR : Hid (M.Rng 256 ys) := by
      intro d hd
      obtain ⟨j, hj, e⟩ := List.getElem_of_mem hd
      have h1 := hr (k + j)
      have h2 : ys.getD j 0 = zs.getD (k + j) 0 := by rw [hys]; simp [List.getD]
      rw [← h2] at h1
      simp [hj, e] at h1
      omega
    have HY : Hid (ys = zs.drop (M.lz zs)) := by show _ = _; rw [HK.out]; exact hys
    have HYL : Hid (ys.length = m) := hyl
    clear hys hyl hc hr hm
    go_wp2_with (refine wpList_make_full _ rfl _ _ 22 rfl w.heap.size 5 i0 (.int .u8 0) 1 Try.underlying22 hi hz0 hz1 .i64 .i64 _ _ m rfl rfl rfl rfl (by rw [hz2]; omega) (by unfold maxLen; omega) (Nat.le_refl _) ?_; intro w1 hown1 hgr1)
    clear hmi
    obtain ⟨g1, hg1⟩ : ∃ g1, g1 = w.heap.size := ⟨_, rfl⟩
    have B1 : Below w.heap.size w w1 := (Below.refl _ _).grown hgr1 (Nat.le_refl _) (fun _ h => by cases h)
    have O1 : Own 5 .u8 w1 w.heap.size g1 m (M.headed [] ys 0 m) := by rw [hg1]; simpa [M.headed] using Own.full hown1
    rw [← hg1]
    clear hown1 hgr1 hg1
    go_loopw [7] (fun i wr => ∃ n : Nat, n ≤ m ∧ i = .int .i64 n ∧ Own 5 .u8 wr w.heap.size g1 m (M.headed [] ys n m) ∧ Below w.heap.size w wr) (fun i _ => m - (intOf i).toNat)
    case atStart => exact ⟨0, Nat.zero_le _, rfl, O1, B1⟩
    case round =>
      clear O1 B1
      obtain ⟨n, hn, rfl, O, hB⟩ := hrel
      have hyl := HYL.out
      by_cases hlt : n < m
      · obtain rfl := ha (by omega)
        have hcx := (hB.cell (p := ⟨b, off + (k + n), none⟩) (hb (by omega))).trans (HYC.out n hlt)
        have hfz := O.frz n
        have hcc := O.cell (j := n) (by rw [M.headed_length _ _ _ _ hn (by omega)]; simpa using hlt)
        have htn : ((k : Int) + (n : Int)).toNat = k + n := by omega
        have hix : (k : Int) + (n : Int) < (len : Int) := by omega
        obtain ⟨d, hd⟩ : ∃ d, d = ys.getD n 0 := ⟨_, rfl⟩
        rw [← hd] at hcx
        have Hd : Hid (d = ys.getD n 0) := hd
        clear hd hyl
        go_wp2
        go_roundw
        case rel =>
          refine ⟨n + 1, by omega, by go_num, ?_, O.below hB (Nat.le_refl _) _ _⟩
          have := O.set n d
          have e := M.headed_round [] ys n m hlt d (by rw [HYL.out]; exact hlt) Hd.out
          rw [List.length_nil, Nat.zero_add] at e
          rw [e] at this
          exact this
        case measure => simp [intOf]; omega
      · obtain rfl : m = n := by omega
        have O2 : Own 5 .u8 wr w.heap.size g1 m ys := by simpa [M.headed, hyl, List.take_of_length_le] using O
        clear O hyl
        have hsz := hB.size
        go_wp2_with (refine wpList_make_full _ rfl _ _ 22 rfl w.heap.size 5 i0 (.int .u8 0) 1 Try.underlying22 hi hz0 hz1 .i64 .i64 _ _ (2 * m + 1) rfl rfl (by omega) (by omega) (by rw [hz2]; omega) (by unfold maxLen; omega) hsz ?_; intro w3 hown3 hgr3)
        obtain ⟨g2, hg2⟩ : ∃ g2, g2 = wr.heap.size := ⟨_, rfl⟩
        have hne : g2 ≠ g1 := by have := O2.parts; omega
        have B3 := hB.grown hgr3 hsz (fun _ h => by cases h)
        have R3 : Own 5 .u8 w3 w.heap.size g2 (2 * m + 1) (M.rems [] (2 * m + 1)) := by rw [hg2]; simpa [M.rems] using Own.full hown3
        have O3 := O2.kept hgr3 (by simp)
        have L3 : M.Ld (M.valBE ys) m ys [] 0 := by have := M.ld_start HYR.out (M.ys_start HY.out); rw [HYL.out] at this; exact this
        rw [← hg2]
        clear hown3 hgr3 hg2 O2 hB hsz
        go_loopw [9, 10, 11] (fun v9 v10 v11 wr => ∃ (ns rs : List Int) (st : Nat), v9 = .int .i64 rs.length ∧ v10 = .int .i64 st ∧ v11 = .int .i64 rs.length ∧ Own 5 .u8 wr w.heap.size g1 m ns ∧ Own 5 .u8 wr w.heap.size g2 (2 * m + 1) (M.rems rs (2 * m + 1)) ∧ M.Ld (M.valBE ys) m ns rs st ∧ Below w.heap.size w wr)
          (fun _ _ v11 _ => 2 * m - (intOf v11).toNat)
        case atStart => exact ⟨ys, [], 0, rfl, rfl, rfl, O3, R3, L3, B3⟩
        case round =>
          clear O3 R3 L3 B3
          obtain ⟨ns, rs, st, rfl, rfl, rfl, O, R, L, hB⟩ := hrel
          have hst := L.2.2.2.2.2.2.2.1
          have hrl := L.2.2.2.2.1
          by_cases hlt : st < m
          · have hmore := (M.ld_more L hlt).2
            have HNL : Hid (ns.length = m) := L.1
            go_wp2_with fail
            obtain ⟨wo, rfl⟩ : ∃ wo : World, wo = wr := ⟨_, rfl⟩
            go_loopw [12, 13] (fun v12 v13 wr => ∃ (xs : List Int) (rem : Int) (n : Nat), n ≤ m ∧ v12 = .int .i64 rem ∧ v13 = .int .i64 n ∧ Own 5 .u8 wr w.heap.size g1 m xs ∧ Own 5 .u8 wr w.heap.size g2 (2 * m + 1) (M.rems rs (2 * m + 1)) ∧ M.Dv ns xs st n rem ∧ Below w.heap.size w wr)
              (fun _ v13 _ => m - (intOf v13).toNat)
            case atStart => exact ⟨ns, 0, st, by omega, rfl, rfl, O, R, M.dv_start L.2.1 L.2.2.2.2.2.2.2.2.1, hB⟩
            case round =>
              clear O R hB
              obtain ⟨xs, rem, n, hn, rfl, rfl, O, R, D, hB⟩ := hrel
              have hr0 := D.2.2.1
              have hr1 := D.2.2.2.1
              have HXL : Hid (xs.length = m) := D.1.trans HNL.out
              by_cases hn2 : n < m
              · have hcc := O.cell (j := n) (by rw [HXL.out]; exact hn2)
                have hfz := O.frz n
                have hxr := M.rng_getD D.2.1 (i := n) (by rw [HXL.out]; exact hn2)
                obtain ⟨d, hd⟩ : ∃ d, d = xs.getD n 0 := ⟨_, rfl⟩
                rw [← hd] at hcc hxr
                have Hd : Hid (d = xs.getD n 0) := hd
                clear hd
                go_wp2
                go_roundw
                case rel =>
                  exact ⟨xs.set n ((rem * 256 + d) / 58), _, n + 1, by omega, rfl, by go_num, O.set n _, R.other hne, M.dv_round D (by rw [HNL.out]; exact hn2) Hd.out, O.below hB (Nat.le_refl _) _ _⟩
                case measure => simp [intOf]; omega
              · obtain rfl : m = n := by omega
                have hfz := R.frz rs.length
                have hcc := R.cell (j := rs.length) (by rw [M.rems_length _ _ (by omega)]; omega)
                go_upto_block 8 with fail
                have R2 := R.set rs.length rem
                rw [M.rems_round rs _ (by omega)] at R2
                have O2 := O.other (g' := g2) (j := rs.length) (u := .int .u8 rem) hne.symm
                have hB2 := R.below hB (Nat.le_refl _) rs.length (.int .u8 rem)
                have Z2 : Hid (∀ j, j < st → xs.getD j 0 = 0) := D.2.2.2.2.2.2.1
                clear O R hB hfz hcc
                generalize wr.setCell ⟨g2, rs.length, none⟩ (Value.int IntKind.u8 rem) = w5 at *
                have D2 : M.Dv ns xs st ns.length rem := by rw [HNL.out]; exact D
                clear D
                go_wp2_with fail
                go_loop [10] (fun i => ∃ n : Nat, n ≤ m ∧ i = .int .i64 n ∧ Hid (∀ j, j < n → xs.getD j 0 = 0)) (fun i => m - (intOf i).toNat)
                case atStart => exact ⟨st, hst, rfl, Z2⟩
                case round =>
                  obtain ⟨n, hn, rfl, HZ⟩ := hrel
                  by_cases hnl : n < m
                  · have hcx := O2.cell (j := n) (by rw [HXL.out]; exact hnl)
                    by_cases h0 : xs.getD n 0 = 0
                    · rw [h0] at hcx
                      have H0 : Hid (xs.getD n 0 = 0) := h0
                      clear h0
                      go_wp2
                      go_round
                      case rel =>
                        refine ⟨n + 1, by omega, by go_num, fun j hj => ?_⟩
                        rcases Nat.lt_or_ge j n with h | h
                        · exact HZ.out j h
                        · obtain rfl : j = n := by omega
                          exact H0.out
                      case measure => simp [intOf]; omega
                    · have HN : Hid (n < m → xs.getD n 0 ≠ 0) := fun _ => h0
                      generalize xs.getD n 0 = z at hcx h0
                      have h0b : (z == 0) = false := by simpa using h0
                      clear h0
                      go_wp2
                      go_roundw
                      case rel =>
                        exact ⟨xs, rs ++ [rem], n, by simp, rfl, by simp, O2, R2, M.ld_round L hlt D2 hn HZ.out HN.out, hB2⟩
                      case measure => simp [intOf]; omega
                  · have HN : Hid (n < m → xs.getD n 0 ≠ 0) := fun h => absurd h hnl
                    go_wp2
                    go_roundw
                    case rel =>
                      exact ⟨xs, rs ++ [rem], n, by simp, rfl, by simp, O2, R2, M.ld_round L hlt D2 hn HZ.out HN.out, hB2⟩
                    case measure => simp [intOf]; omega
          · obtain rfl : m = st := by omega
            have E := M.ld_end L
            have hsz := hB.size
            clear L
            go_wp2_with (refine wpList_make_full _ rfl _ _ 22 rfl w.heap.size 5 i0 (.int .u8 0) 1 Try.underlying22 hi hz0 hz1 .i64 .i64 _ _ (k + rs.length) rfl rfl (by omega) (by omega) (by rw [hz2]; omega) (by unfold maxLen; omega) hsz ?_; intro w6 hown6 hgr6)
            obtain ⟨tb, htb⟩ : ∃ tb, tb = wr.heap.size := ⟨_, rfl⟩
            have T6 : Own 5 .u8 w6 w.heap.size tb (k + rs.length) (List.replicate (k + rs.length) 0) := by rw [htb]; exact Own.full hown6
            rw [← htb]
            have R6 := R.kept hgr6 (by simp)
            have B6 := hB.grown hgr6 hsz (fun _ h => by cases h)
            have hne2 : tb ≠ g2 := by have := R.parts; omega
            clear htb hown6 hgr6 O R hB hsz
            go_loopw [16] (fun i wr => ∃ n : Nat, n ≤ k ∧ i = .int .i64 n ∧ Own 5 .u8 wr w.heap.size tb (k + rs.length) (List.replicate n 49 ++ List.replicate (k + rs.length - n) 0) ∧ Own 5 .u8 wr w.heap.size g2 (2 * m + 1) (M.rems rs (2 * m + 1)) ∧ Below w.heap.size w wr)
              (fun i _ => k - (intOf i).toNat)
            case atStart => exact ⟨0, Nat.zero_le _, rfl, by simpa using T6, R6, B6⟩
            case round =>
              clear T6 R6 B6
              obtain ⟨n, hn, rfl, T, R, hB⟩ := hrel
              by_cases hlt2 : n < k
              · have hfz := T.frz n
                have hcc := T.cell (j := n) (by simp; omega)
                go_wp2
                go_roundw
                case rel =>
                  refine ⟨n + 1, by omega, by go_num, ?_, R.other hne2.symm, T.below hB (Nat.le_refl _) _ _⟩
                  have := T.set n 49
                  rw [M.ones_round _ _ (by omega)] at this
                  exact this
                case measure => simp [intOf]; omega
              · obtain rfl : k = n := by omega
                go_wp2_with fail
                obtain ⟨L, hL⟩ : ∃ L, L = (rs.map M.alph).reverse := ⟨_, rfl⟩
                have HLL : Hid (L.length = rs.length) := by show _ = _; rw [hL]; simp
                have T7 : Own 5 .u8 wr w.heap.size tb (k + rs.length) (M.headed (List.replicate k 49) L 0 rs.length) := by simpa [M.headed] using T
                have HL : Hid (L = (rs.map M.alph).reverse) := hL
                clear T hL
                obtain ⟨wo, rfl⟩ : ∃ wo : World, wo = wr := ⟨_, rfl⟩
                go_loopw [17] (fun i wr => ∃ n : Nat, n ≤ rs.length ∧ i = .int .i64 n ∧ Own 5 .u8 wr w.heap.size tb (k + rs.length) (M.headed (List.replicate k 49) L n rs.length) ∧ Own 5 .u8 wr w.heap.size g2 (2 * m + 1) (M.rems rs (2 * m + 1)) ∧ Below w.heap.size w wr)
                  (fun i _ => rs.length - (intOf i).toNat)
                case atStart => exact ⟨0, Nat.zero_le _, rfl, T7, R, hB⟩
                case round =>
                  clear T7 R hB
                  obtain ⟨n, hn, rfl, T, R, hB⟩ := hrel
                  have HTL : Hid ((M.headed (List.replicate k 49) L n rs.length).length = k + rs.length) := by
                    have := M.headed_length (List.replicate k 49) L n rs.length hn (by rw [HLL.out]; exact hn)
                    rw [List.length_replicate] at this
                    exact this
                  by_cases hlt3 : n < rs.length
                  · have hfz := T.frz (k + n)
                    have hct := T.cell (j := k + n) (by rw [HTL.out]; omega)
                    have hcc := R.cell (j := rs.length - 1 - n) (by rw [M.rems_length _ _ (by omega)]; omega)
                    rw [M.rems_getD _ _ _ (by omega)] at hcc
                    have hdr := M.rng_getD E.1.1 (i := rs.length - 1 - n) (by omega)
                    have htn : ((rs.length : Int) - 1 - (n : Int)).toNat = rs.length - 1 - n := by omega
                    have htk : ((k : Int) + (n : Int)).toNat = k + n := by omega
                    obtain ⟨d, hd⟩ : ∃ d, d = rs.getD (rs.length - 1 - n) 0 := ⟨_, rfl⟩
                    rw [← hd] at hcc hdr
                    have Hd : Hid (d = rs.getD (rs.length - 1 - n) 0) := hd
                    clear hd
                    go_wp2
                    go_roundw
                    case rel =>
                      refine ⟨n + 1, by omega, by go_num, ?_, R.other hne2.symm, T.below hB (Nat.le_refl _) _ _⟩
                      simp only [alph_at]
                      have h7 := T.set (k + n) (M.alph d)
                      have e := M.headed_round (List.replicate k 49) L n rs.length hlt3 (M.alph d) (by rw [HLL.out]; exact hlt3) (by rw [HL.out, M.rev_map_getD rs n hlt3, Hd.out])
                      rw [List.length_replicate] at e
                      rw [e] at h7
                      exact h7
                    case measure => simp [intOf]; omega
                  · obtain rfl : n = rs.length := by omega
                    have hconv := run_convert_bytes_arg (P := Try.prog) wr 22 5 Try.underlying22 Try.underlying5 tb 0 (k + rs.length) (k + rs.length) (M.headed (List.replicate k 49) L rs.length rs.length) HTL.out
                      (fun i hi => by rw [Nat.zero_add]; exact T.cell (by rw [HTL.out]; exact hi)) 9 Try.underlying9
                    have HE : Hid (M.EncText zs (M.headed (List.replicate k 49) L rs.length rs.length)) := by
                      refine ⟨rs, E.1, ?_, ?_, ?_⟩
                      · rw [E.2.1, HY.out]
                      · rw [HK.out, hz]; have := E.2.2; omega
                      · rw [HK.out, ← HL.out]
                        simp [M.headed, List.take_of_length_le, HLL.out]
                    go_wp2
                    go_ret
                    exact ⟨_, rfl, HE.out, hB⟩
end Go.Proofs.Qxb6619687a
