import Derived.Test.Qxb6619687aDigit
namespace Go.Proofs.Qxb6619687a
open Go.RowKit
set_option linter.unusedVariables false

theorem rng_of {zs : List Int} (h : ∀ j, 0 ≤ zs.getD j 0 ∧ zs.getD j 0 ≤ 255) : M.Rng 256 zs := by
  intro d hd
  obtain ⟨j, hj, e⟩ := List.getElem_of_mem hd
  have h1 := h j
  simp [hj, e] at h1
  omega

set_option maxHeartbeats 1600000 in
set_option maxRecDepth 100000 in
theorem db_walk (a : Option Addr) (len cap : Nat) (zs : List Int) (w : World) (hl : len ≤ 4096) (hA : Arg w a len cap zs) :
    Calls Try.prog 4 #[.slice a len cap] w fun e w' => e = .returned (.bool true) ∧ Below w.heap.size w w' := by
  obtain ⟨i0, hi, hz0, hz1, hz2⟩ := info_parts Try.info5
  obtain ⟨hz, hlc, hnil, hcell, hr⟩ := hA
  have HCELL : Hid (∀ x, a = some x → ∀ j, j < len → w.cell? (x.add j) = some (.int .u8 (zs.getD j 0))) := hcell
  have HR : Hid (∀ j, 0 ≤ zs.getD j 0 ∧ zs.getD j 0 ≤ 255) := hr
  clear hcell hr
  have hneq := fun wx => run_neq_slice_nil_any (P := Try.prog) wx 22 5 a len cap 0 0 Try.underlying22
  go_enter Try.func4, Try.ntmps4
  go_upto_if 21 with (go_at_call 9; go_in)
  go_cut [0, 3] from 14 to 28 (fun v1 v5 wc => Copied w wc v1 zs)
  case first =>
    cases a with
    | none =>
      obtain ⟨rfl, rfl⟩ := hnil rfl
      go_wp2
      go_meet
      exact copied_nil (List.eq_nil_of_length_eq_zero hz)
    | some x =>
      clear hnil
      go_wp2_with (first
        | (refine wpList_make_full _ rfl _ _ 22 rfl w.heap.size 5 i0 (.int .u8 0) 1 Try.underlying22 hi hz0 hz1 .i64 .i64 _ _ len rfl rfl rfl rfl (by rw [hz2]; omega) (by unfold maxLen; omega) (Nat.le_refl _) ?_; intro w1 hown1 hgr1)
        | (refine wpList_copy_splice rfl (.tmp 25) (.tmp 26) 22 22 rfl 5 Try.underlying22 (by rw [hi]; simp [hz1]) _ _ _ _ _ _ rfl rfl w.heap.size 0 ((List.replicate len (0 : Int)).map (Value.int .u8)) 5 (copy_block hown1) (zs.map (Value.int .u8)) (by simp [hz]) (copy_src HCELL.out hz hgr1 rfl) (by simp [hz]) (ints_oneCell _ _) w.heap.size w ((Below.refl _ _).grown hgr1 (Nat.le_refl _) (fun _ h => by cases h)) (Nat.le_refl _) ?_; intro w2 HG2 hB2))
      go_meet
      subst hz
      exact copied_made (by unfold maxLen; omega) hB2 (Nat.le_refl _) HG2.out
  case rest =>
    obtain ⟨B1, a1, b1, off1, cap1, rfl, hlc1, han1, ha1, hb1, hc1⟩ := hcut
    clear hneq hnil HCELL hlc
    have HC1 : Hid (∀ j, j < zs.length → wc.cell? ⟨b1, off1 + j, none⟩ = some (.int .u8 (zs.getD j 0))) := hc1
    have HA1 : Hid (0 < zs.length → a1 = some ⟨b1, off1, none⟩) := ha1
    have HN1 : Hid (a1 = none → cap1 = 0) := han1
    have HB1 : Hid (0 < zs.length → b1 < wc.heap.size) := hb1
    clear hc1 ha1 han1 hb1
    subst hz
    go_wp2_with fail
    refine (enc_any a1 b1 off1 zs.length cap1 zs wc HB1.out hlc1 (by omega) rfl HA1.out HN1.out HC1.out HR.out).mono ?_
    rintro e w4 ⟨t1, rfl, E1, B4⟩
    obtain ⟨ds, hC, hv, hdl, ht⟩ := E1
    generalize hs1 : strOfNums t1 = s
    obtain ⟨k, hk⟩ : ∃ k, k = M.lz zs := ⟨_, rfl⟩
    have hkl : k ≤ zs.length := by rw [hk]; exact M.lz_le zs
    have hsz0 : s.size = k + ds.length := by rw [← hs1, strOfNums_size, ht, hk]; simp
    have hsz1 : s.size ≤ k + ds.length := by omega
    have hsz2 : k + ds.length ≤ s.size := by omega
    rw [← hk] at hdl hv
    have HP : Hid (∀ i (h : i < s.size), i < k → ((s[i]'h).toNat : Int) = 49) := by
      intro i h hik
      rw [strOfNums_at (xs := t1) hs1 h, ht, ← hk, M.text_one k ds i hik]
      rfl
    have HQ : Hid (∀ p (h : p < s.size), k ≤ p → ((s[p]'h).toNat : Int) = M.alph (ds.getD (ds.length - 1 - (p - k)) 0)) := by
      intro p h hkp
      have hq : p - k < ds.length := by omega
      have hr := M.rng_getD hC.1 (i := ds.length - 1 - (p - k)) (by omega)
      have ha := M.alph_range hr.1 hr.2
      have e := M.text_digit k ds (p - k) hq
      rw [show k + (p - k) = p by omega] at e
      rw [strOfNums_at (xs := t1) hs1 h, ht, ← hk, e]
      rw [UInt8.toNat_ofNat']
      omega
    have HK : Hid (M.lz zs = k) := hk.symm
    clear hs1 ht hk hsz0
    have hlen : ¬ (2 * (zs.length : Int) + 1 < (s.size : Int)) := by omega
    go_upto_block 0 with fail
    go_cut [5] from 29 to 49 (fun v5 wd => w4 = wd ∧ v5 = .int .i64 k)
    case first =>
      go_wp2_with fail
      go_loop [5] (fun i => ∃ n : Nat, n ≤ k ∧ i = .int .i64 n) (fun i => k - (intOf i).toNat)
      case atStart => exact ⟨0, Nat.zero_le _, rfl⟩
      case round =>
        obtain ⟨n, hn, rfl⟩ := hrel
        by_cases hlt : n < k
        · have h49 := HP.out n (by omega) hlt
          go_wp2
          go_round
          case rel => exact ⟨n + 1, by omega, by go_num⟩
          case measure => simp [intOf]; omega
        · obtain rfl : k = n := by omega
          by_cases hp : k < s.size
          · have hq := HQ.out k hp (Nat.le_refl _)
            have hd := M.rng_getD hC.1 (i := ds.length - 1) (by omega)
            have hne : ((s[k].toNat : Int) == 49) = false := by
              have h1 := M.alph_49 hd.1 hd.2 (M.top_getD hC.2 (by omega))
              rw [Nat.sub_self, Nat.sub_zero] at hq
              rw [hq]
              simpa using h1
            clear hq hd
            go_wp2
            go_meet
            exact ⟨rfl, rfl⟩
          · go_wp2
            go_meet
            exact ⟨rfl, rfl⟩
    case rest =>
      obtain ⟨rfl, rfl⟩ := hcut
      have B4s := B4.size
      go_wp2_with (refine wpList_make_full _ rfl _ _ 22 rfl wc.heap.size 5 i0 (.int .u8 0) 1 Try.underlying22 hi hz0 hz1 .i64 .i64 _ _ (s.size + 1) rfl rfl (by omega) (by omega) (by rw [hz2]; omega) (by unfold maxLen; omega) B4s ?_; intro w5 hown5 hgr5)
      obtain ⟨g, hg⟩ : ∃ g, g = w4.heap.size := ⟨_, rfl⟩
      have O5 : Own 5 .u8 w5 wc.heap.size g (s.size + 1) (M.rems [] (s.size + 1)) := by rw [hg]; simpa [M.rems] using Own.full hown5
      rw [← hg]
      have B5 := B4.grown hgr5 B4s (fun _ h => by cases h)
      clear hown5 hgr5 hg B4 B4s
      go_loopw [7, 8] (fun v7 v8 wr => ∃ (xs : List Int) (p : Nat), k ≤ p ∧ p ≤ k + ds.length ∧ v7 = .int .i64 xs.length ∧ v8 = .int .i64 p ∧ Own 5 .u8 wr wc.heap.size g (s.size + 1) (M.rems xs (s.size + 1)) ∧ M.Dec ds xs (p - k) ∧ Below wc.heap.size wc wr)
        (fun _ v8 _ => k + ds.length - (intOf v8).toNat)
      case atStart => exact ⟨[], k, Nat.le_refl _, by omega, rfl, rfl, O5, by rw [Nat.sub_self]; exact M.dec_start ds, B5⟩
      case round =>
        clear O5 B5
        obtain ⟨x0, p, hkp, hps, rfl, rfl, O, D, hB⟩ := hrel
        have hx0 := D.2.2
        by_cases hlt : p < s.size
        · have hq := HQ.out p hlt hkp
          have hd := M.rng_getD hC.1 (i := ds.length - 1 - (p - k)) (by omega)
          obtain ⟨d, hdd⟩ : ∃ d, d = ds.getD (ds.length - 1 - (p - k)) 0 := ⟨_, rfl⟩
          rw [← hdd] at hq hd
          obtain ⟨c, hcc⟩ : ∃ c, c = M.alph d := ⟨_, rfl⟩
          rw [← hcc] at hq
          have HCC : Hid (c = M.alph d) := hcc
          have HDD : Hid (d = ds.getD (ds.length - 1 - (p - k)) 0) := hdd
          clear hcc hdd
          go_wp2_with fail
          refine (digit_any c d _ hd.1 hd.2 HCC.out).mono ?_
          rintro e w6 ⟨rfl, rfl⟩
          clear hq
          have hd0 := hd.1
          have hd1 := hd.2
          clear hd
          go_wp2_with fail
          go_loopw [10, 11] (fun v10 v11 wr => ∃ (xs : List Int) (cy : Int) (n : Nat), n ≤ x0.length ∧ v10 = .int .i64 cy ∧ v11 = .int .i64 n ∧ Own 5 .u8 wr wc.heap.size g (s.size + 1) (M.rems xs (s.size + 1)) ∧ M.Inner2 x0 xs n cy (ds.getD (ds.length - 1 - (p - k)) 0 + 58 * M.valT 256 x0 0) ∧ Below wc.heap.size wc wr)
            (fun _ v11 _ => x0.length - (intOf v11).toNat)
          case atStart => exact ⟨x0, d, 0, Nat.zero_le _, rfl, rfl, O, by rw [← HDD.out]; exact M.inner2_start x0 d D.1.1 hd0 (by omega), hB⟩
          case round =>
            clear O hB
            obtain ⟨xs, cy, n, hn, rfl, rfl, O, I, hB⟩ := hrel
            have hcy0 := I.2.2.1
            have hcy1 := I.2.2.2.1
            have HXL : Hid (xs.length = x0.length) := I.1
            by_cases hn2 : n < x0.length
            · have hxl : n < xs.length := by rw [HXL.out]; exact hn2
              have hcc := O.cell (j := n) (by rw [M.rems_length _ _ (by rw [HXL.out]; omega)]; omega)
              rw [M.rems_getD _ _ _ hxl] at hcc
              have hfz := O.frz n
              have hxr := M.rng_getD I.2.1 (i := n) hxl
              obtain ⟨x, hx⟩ : ∃ x, x = xs.getD n 0 := ⟨_, rfl⟩
              rw [← hx] at hcc hxr
              have Hx : Hid (x = xs.getD n 0) := hx
              clear hx
              go_wp2
              go_roundw
              case rel =>
                refine ⟨xs.set n ((cy + x * 58) % 256), _, n + 1, by omega, rfl, by go_num, ?_, M.inner2_round I D.1.2 hn2 Hx.out, O.below hB (Nat.le_refl _) _ _⟩
                have h := O.set n ((cy + x * 58) % 256)
                rw [M.rems_set _ _ _ hxl] at h
                exact h
              case measure => simp [intOf]; omega
            · obtain rfl : n = x0.length := by omega
              have U := M.dec_outer D (by omega) I
              go_wp2_with fail
              obtain ⟨wo, rfl⟩ : ∃ wo : World, wo = wr := ⟨_, rfl⟩
              go_loopw [7, 10] (fun v7 v10 wr => ∃ (xs : List Int) (cy : Int), v7 = .int .i64 xs.length ∧ v10 = .int .i64 cy ∧ Own 5 .u8 wr wc.heap.size g (s.size + 1) (M.rems xs (s.size + 1)) ∧ M.Outer2 xs cy (M.valT 58 (ds.drop (ds.length - (p - k + 1))) 0) (p - k + 1) ∧ Below wc.heap.size wc wr)
                (fun _ v10 _ => (intOf v10).toNat)
              case atStart => exact ⟨xs, cy, by rw [HXL.out], rfl, O, U, hB⟩
              case round =>
                clear O U I hB hcy0 hcy1 HXL
                obtain ⟨x4, c4, rfl, rfl, O, U, hB⟩ := hrel
                have hc0 := U.2.2.1
                have hc1 := U.2.2.2.1
                have hx4 := U.2.2.2.2.2
                by_cases hpos : 0 < c4
                · have hroom := M.outer2_room U hpos
                  have hge : ¬ ((s.size : Int) + 1 ≤ (x4.length : Int)) := by omega
                  have hfz := O.frz x4.length
                  have hcc := O.cell (j := x4.length) (by rw [M.rems_length _ _ (by omega)]; omega)
                  go_wp2
                  go_roundw
                  case rel =>
                    refine ⟨x4 ++ [c4 % 256], _, by simp, rfl, ?_, M.outer2_round U hpos, O.below hB (Nat.le_refl _) _ _⟩
                    have h := O.set x4.length (c4 % 256)
                    rw [M.rems_round _ _ (by omega)] at h
                    exact h
                  case measure => simp [intOf]; omega
                · go_wp2
                  go_roundw
                  case rel =>
                    refine ⟨x4, p + 1, by omega, by omega, rfl, by go_num, O, ?_, hB⟩
                    have h := M.dec_round U (by omega)
                    rw [show p - k + 1 = p + 1 - k by omega] at h
                    exact h
                  case measure => simp [intOf]; omega
        · obtain rfl : p = k + ds.length := by omega
          rw [Nat.add_sub_cancel_left] at D
          have hxs := M.dec_end (zs := zs) (M.rng_drop (rng_of HR.out) _) (by rw [HK.out]; exact hv) D
          rw [HK.out] at hxs
          have HXS : Hid (x0 = (zs.drop k).reverse) := hxs
          have hx1 : x0.length = zs.length - k := by rw [hxs]; simp
          have hx2 : x0.length ≤ zs.length - k := by omega
          have hx3 : zs.length - k ≤ x0.length := by omega
          have HZ : Hid (∀ i, i < k → zs.getD i 0 = 0) := by
            intro i hi
            have e := M.lz_take zs
            rw [HK.out] at e
            rw [← M.getD_take hi, e]
            simp [List.getD, hi]
          have hne : ((k : Int) + (x0.length : Int) != (zs.length : Int)) = false := by simp; omega
          clear hxs hx1 D
          go_wp2_with fail
          go_loop [12] (fun i => ∃ n : Nat, n ≤ k ∧ i = .int .i64 n) (fun i => k - (intOf i).toNat)
          case atStart => exact ⟨0, Nat.zero_le _, rfl⟩
          case round =>
            obtain ⟨n, hn, rfl⟩ := hrel
            by_cases hlt5 : n < k
            · obtain rfl := HA1.out (by omega)
              have hcx := (hB.cell (p := ⟨b1, off1 + n, none⟩) (HB1.out (by omega))).trans (HC1.out n (by omega))
              rw [HZ.out n hlt5] at hcx
              go_wp2
              go_round
              case rel => exact ⟨n + 1, by omega, by go_num⟩
              case measure => simp [intOf]; omega
            · go_wp2_with fail
              obtain ⟨wo, rfl⟩ : ∃ wo : World, wo = wr := ⟨_, rfl⟩
              go_loopw [13] (fun i wr => ∃ n : Nat, n ≤ x0.length ∧ i = .int .i64 n ∧ Own 5 .u8 wr wc.heap.size g (s.size + 1) (M.rems x0 (s.size + 1)) ∧ Below wc.heap.size wc wr) (fun i _ => x0.length - (intOf i).toNat)
              case atStart => exact ⟨0, Nat.zero_le _, rfl, O, hB⟩
              case round =>
                clear O hB
                obtain ⟨m, hm, rfl, O, hB⟩ := hrel
                by_cases hlt6 : m < x0.length
                · obtain rfl := HA1.out (by omega)
                  have hcx := (hB.cell (p := ⟨b1, off1 + (k + m), none⟩) (HB1.out (by omega))).trans (HC1.out (k + m) (by omega))
                  have hca := O.cell (j := x0.length - 1 - m) (by rw [M.rems_length _ _ (by omega)]; omega)
                  rw [M.rems_getD _ _ _ (by omega)] at hca
                  have hzz : x0.getD (x0.length - 1 - m) 0 = zs.getD (k + m) 0 := by
                    have hl0 : x0.length = (zs.drop k).length := by simp; omega
                    rw [hl0, HXS.out, M.rev_getD _ _ (by rw [← hl0]; exact hlt6)]
                    simp [List.getD]
                  rw [hzz] at hca
                  clear hzz
                  generalize zs.getD (k + m) 0 = z at hcx hca
                  have hw1 : IntKind.i64.wrap ((k : Int) + (m : Int)) = (k : Int) + (m : Int) := by rw [IntKind.wrap_i64]; omega
                  have hw2 : IntKind.i64.wrap ((x0.length : Int) - 1) = (x0.length : Int) - 1 := by rw [IntKind.wrap_i64]; omega
                  have hw3 : IntKind.i64.wrap ((x0.length : Int) - 1 - (m : Int)) = (x0.length : Int) - 1 - (m : Int) := by rw [IntKind.wrap_i64]; omega
                  have ht1 : ((k : Int) + (m : Int)).toNat = k + m := by omega
                  have ht2 : ((x0.length : Int) - 1 - (m : Int)).toNat = x0.length - 1 - m := by omega
                  have hi1 : (k : Int) + (m : Int) < (zs.length : Int) := by omega
                  have hi2 : (x0.length : Int) - 1 - (m : Int) < (s.size : Int) + 1 := by omega
                  have hi3 : 0 ≤ (x0.length : Int) - 1 - (m : Int) := by omega
                  go_wp2_with fail
                  go_quiet (fail)
                  go_wp2
                  go_roundw
                  case rel => exact ⟨m + 1, by omega, by go_num, O, below_drewN hB _⟩
                  case measure => simp [intOf]; omega
                · go_wp2
                  go_ret
                  exact ⟨rfl, B1.trans (hB.mono B1.size)⟩

set_option maxHeartbeats 400000 in
theorem db_out (a : Option Addr) (len cap : Nat) (w : World) (hl : len ≤ maxLen) (h : 4096 < len) :
    Calls Try.prog 4 #[.slice a len cap] w fun e w' => e = .returned (.bool true) ∧ Below w.heap.size w w' := by
  unfold maxLen at hl
  by_cases h1 : 1048576 < len
  · go_enter Try.func4, Try.ntmps4
    go_wp2
    go_ret
    exact ⟨rfl, Below.refl _ _⟩
  · go_enter Try.func4, Try.ntmps4
    go_wp2
    go_ret
    exact ⟨rfl, Below.refl _ _⟩
end Go.Proofs.Qxb6619687a
