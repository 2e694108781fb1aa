import Derived.Test.Qxb6617207aDig
namespace Go.Proofs.Qxb6617207a
open Go.RowKit
set_option linter.unusedVariables false

set_option maxHeartbeats 1600000 in
set_option maxRecDepth 100000 in
theorem form_some (b off l c : Nat) (zs : List Int) (w : World) (hz : zs.length = l) (hlc : l ≤ c) (hl : l ≤ 1048577) (hp : 0 < l)
    (hc : ∀ j, j < l → w.cell? ⟨b, off + j, none⟩ = some (.int .u8 (zs.getD j 0))) :
    Calls Try.prog 15 #[.slice (some ⟨b, off, none⟩) l c] w fun e w' => e = .returned (.tuple #[.bool (D.nf zs).1, .bool (D.nf zs).2]) ∧ w = w' := by
  have hV : View w (some ⟨b, off, none⟩) l c zs := ⟨hz, hlc, fun _ => ⟨b, off, rfl, hc⟩⟩
  have HC : Hid (∀ j, j < l → w.cell? ⟨b, off + j, none⟩ = some (.int .u8 (zs.getD j 0))) := hc
  have HZ : Hid (zs.length = l) := hz
  clear hc hz
  go_enter Try.func15, Try.ntmps15
  go_upto_region 2 with fail
  go_cut [18] from 8 to 18 (fun v wx => w = wx ∧ v = .bool (decide (zs.getD 0 0 = 45)))
  case first =>
    have hcx := HC.out 0 hp
    rw [Nat.add_zero] at hcx
    generalize zs.getD 0 0 = z at *
    go_wp2
    go_meet
    exact ⟨rfl, congrArg Value.bool (by rw [Bool.eq_iff_iff]; simp)⟩
  case rest =>
    obtain ⟨rfl, rfl⟩ := hcut
    go_upto_if 18 with fail
    go_cut [4] from 8 to 20 (fun v wx => w = wx ∧ ∃ p : Nat, p ≤ l ∧ v = .int .i64 p ∧ Hid (zs.drop p = D.sgn zs))
    case first =>
      by_cases h45 : zs.getD 0 0 = 45
      · rw [decide_eq_true h45]
        have HS : Hid (zs.drop 1 = D.sgn zs) := D.sgn_yes (by rw [HZ.out]; exact hp) h45
        clear h45
        go_wp2
        go_meet
        exact ⟨rfl, 1, by omega, rfl, HS⟩
      · rw [decide_eq_false h45]
        have HS : Hid (zs.drop 0 = D.sgn zs) := D.sgn_no h45
        clear h45
        go_wp2
        go_meet
        exact ⟨rfl, 0, by omega, rfl, HS⟩
    case rest =>
      obtain ⟨rfl, p, hpl, rfl, HS⟩ := hcut
      go_upto_region 4 with fail
      go_cut [5] from 21 to 24 (fun v wx => w = wx ∧ v = .int .i64 (D.digs (D.sgn zs)))
      case first =>
        by_cases hpl2 : p < l
        · go_wp2_with fail
          refine (digits_any _ _ _ (zs.drop p) w (view_rest hV hpl (by omega)) (by omega)).mono ?_
          rintro e w1 ⟨rfl, rfl⟩
          go_wp2
          go_meet
          exact ⟨rfl, by rw [HS.out]⟩
        · obtain rfl : l = p := by omega
          have HE : Hid (D.sgn zs = []) := by show _ = _; rw [← HS.out]; exact List.drop_eq_nil_of_le (by rw [HZ.out]; omega)
          by_cases hcp : c = l
          · subst hcp
            go_wp2_with fail
            refine (digits_any _ _ _ [] w (view_zero _ _ _) (by omega)).mono ?_
            rintro e w1 ⟨rfl, rfl⟩
            go_wp2
            go_meet
            exact ⟨rfl, by rw [HE.out]⟩
          · go_wp2_with fail
            refine (digits_any _ _ _ [] w (view_zero _ _ _) (by omega)).mono ?_
            rintro e w1 ⟨rfl, rfl⟩
            go_wp2
            go_meet
            exact ⟨rfl, by rw [HE.out]⟩
      case rest =>
        obtain ⟨rfl, rfl⟩ := hcut
        have hsl : (D.sgn zs).length = l - p := by rw [← HS.out, List.length_drop, HZ.out]
        have hdl := D.digs_le (D.sgn zs)
        rw [hsl] at hdl
        obtain ⟨s, hs⟩ : ∃ s, s = D.sgn zs := ⟨_, rfl⟩
        rw [← hs] at hdl ⊢
        have HNF : Hid (D.nf zs = D.nfS s) := by show D.nf zs = _; rw [hs]; rfl
        have HSD : Hid (s = zs.drop p) := by show s = _; rw [hs, HS.out]
        clear hs hsl HS
        obtain ⟨n, hn⟩ : ∃ n, n = D.digs s := ⟨_, rfl⟩
        rw [← hn] at hdl ⊢
        have HN : Hid (n = D.digs s) := hn
        clear hn
        go_upto_region 5 with fail
        go_cut [37] from 21 to 37 (fun v wx => w = wx ∧ v = .bool (D.bad s))
        case first =>
          by_cases hn0 : n = 0
          · subst hn0
            have HB : Hid (D.bad s = true) := by show _ = _; unfold D.bad; rw [← HN.out]; simp
            go_wp2
            go_meet
            exact ⟨rfl, by rw [HB.out]⟩
          · have hcx := HC.out p (by omega)
            have hsz : s.getD 0 0 = zs.getD p 0 := by rw [HSD.out]; simp [List.getD]
            have hnb : ((n : Int) == 0) = false := by simp; omega
            have HB : Hid (D.bad s = decide (1 < n ∧ zs.getD p 0 = 48)) := by
              show _ = _
              unfold D.bad
              rw [← HN.out, hsz]
              simp [hn0]
            clear hsz
            generalize zs.getD p 0 = z at *
            by_cases hn1 : 1 < n
            · go_wp2
              go_meet
              refine ⟨rfl, ?_⟩
              rw [HB.out]
              exact congrArg Value.bool (by rw [Bool.eq_iff_iff]; simp [hn1])
            · go_wp2
              go_meet
              refine ⟨rfl, ?_⟩
              rw [HB.out]
              exact congrArg Value.bool (by simp [hn1])
        case rest =>
          obtain ⟨rfl, rfl⟩ := hcut
          by_cases hbad : D.bad s = true
          · rw [hbad]
            have HF : Hid (D.nf zs = (false, false)) := by show _ = _; rw [HNF.out, D.nfS_bad hbad]
            clear hbad
            go_wp2
            go_ret2
            rw [HF.out]
            exact ⟨rfl, rfl⟩
          · have hbf : D.bad s = false := by simpa using hbad
            rw [hbf]
            have HBF : Hid (D.bad s = false) := hbf
            clear hbad hbf
            go_upto_region 7 with fail
            go_cut [4] from 21 to 40 (fun v wx => w = wx ∧ ∃ q : Nat, q ≤ l ∧ v = .int .i64 q ∧ Hid (s.drop (D.digs s) = zs.drop q))
            case first =>
              have HQ : Hid (s.drop (D.digs s) = zs.drop (p + n)) := by show _ = _; rw [← HN.out, HSD.out, List.drop_drop]
              go_wp2
              go_meet
              exact ⟨rfl, p + n, by omega, by go_num, HQ⟩
            case rest =>
              obtain ⟨rfl, q, hql, rfl, HQ⟩ := hcut
              by_cases hqe : q = l
              · subst hqe
                have HF : Hid (D.nf zs = (true, true)) := by
                  show _ = _
                  rw [HNF.out, D.nfS_end HBF.out (by rw [HQ.out]; exact List.drop_eq_nil_of_le (by rw [HZ.out]; omega))]
                go_wp2
                go_ret2
                rw [HF.out]
                exact ⟨rfl, rfl⟩
              · have hqb : ((q : Int) == (l : Int)) = false := by simp; omega
                have hat := D.drop_at (zs := zs) (q := q) (by rw [HZ.out]; omega)
                have HF : Hid (D.nf zs = D.nfF (zs.drop q)) := by
                  show _ = _
                  rw [HNF.out, D.nfS_go HBF.out (by rw [HQ.out, hat]; simp), HQ.out]
                have HAT : Hid (zs.drop q = zs.getD q 0 :: zs.drop (q + 1)) := hat
                have hcx := HC.out q (by omega)
                clear hat HQ HBF HNF HSD HN hdl
                have hi1 : (q : Int) < (l : Int) := by omega
                go_upto_region 10 with fail
                go_cut [49] from 41 to 49 (fun v wx => w = wx ∧ v = .bool (decide (zs.getD q 0 = 46)))
                case first =>
                  generalize zs.getD q 0 = z at *
                  go_wp2
                  go_meet
                  exact ⟨rfl, congrArg Value.bool (by rw [Bool.eq_iff_iff]; simp)⟩
                case rest =>
                  obtain ⟨rfl, rfl⟩ := hcut
                  go_upto_if 49 with fail
                  clear hcx hqb
                  go_cut [4] from 41 to 60 (fun v wx => w = wx ∧ ∃ q2 : Nat, q2 ≤ l ∧ v = .int .i64 q2 ∧ Hid (D.nf zs = D.nfE (zs.drop q2)))
                  case first =>
                    by_cases h46 : zs.getD q 0 = 46
                    · rw [decide_eq_true h46]
                      have HF2 : Hid (D.nf zs = D.nfF (46 :: zs.drop (q + 1))) := by show _ = _; rw [HF.out, HAT.out, h46]
                      clear h46 HF HAT
                      by_cases hq1 : q + 1 < l
                      · go_wp2_with fail
                        refine (digits_any _ _ _ (zs.drop (q + 1)) w (view_rest hV (by omega) (by omega)) (by omega)).mono ?_
                        rintro e w1 ⟨rfl, rfl⟩
                        have hml := D.digs_le (zs.drop (q + 1))
                        rw [List.length_drop, HZ.out] at hml
                        obtain ⟨m, hm⟩ : ∃ m, m = D.digs (zs.drop (q + 1)) := ⟨_, rfl⟩
                        rw [← hm] at hml ⊢
                        have HM : Hid (m = D.digs (zs.drop (q + 1))) := hm
                        clear hm
                        by_cases hm0 : m = 0
                        · subst hm0
                          have HF3 : Hid (D.nf zs = (false, false)) := by show _ = _; rw [HF2.out, D.nfF_zero HM.out.symm]
                          go_wp2
                          go_ret2
                          rw [HF3.out]
                          exact ⟨rfl, rfl⟩
                        · have hmb : ((m : Int) == 0) = false := by simp; omega
                          have HF3 : Hid (D.nf zs = D.nfE (zs.drop (q + (1 + m)))) := by
                            show _ = _
                            rw [HF2.out, D.nfF_some (by rw [← HM.out]; exact hm0), ← HM.out, List.drop_drop, Nat.add_assoc]
                          go_wp2
                          go_meet
                          exact ⟨rfl, q + (1 + m), by omega, by go_num, HF3⟩
                      · obtain rfl : l = q + 1 := by omega
                        have HF3 : Hid (D.nf zs = (false, false)) := by
                          show _ = _
                          rw [HF2.out, D.nfF_zero (by rw [List.drop_eq_nil_of_le (by rw [HZ.out]; omega)]; rfl)]
                        by_cases hcq : c = q + 1
                        · subst hcq
                          go_wp2_with fail
                          refine (digits_any _ _ _ [] w (view_zero _ _ _) (by omega)).mono ?_
                          rintro e w1 ⟨rfl, rfl⟩
                          have hd0 : D.digs [] = 0 := rfl
                          rw [hd0]
                          clear hd0
                          go_wp2
                          go_ret2
                          rw [HF3.out]
                          exact ⟨rfl, rfl⟩
                        · go_wp2_with fail
                          refine (digits_any _ _ _ [] w (view_zero _ _ _) (by omega)).mono ?_
                          rintro e w1 ⟨rfl, rfl⟩
                          have hd0 : D.digs [] = 0 := rfl
                          rw [hd0]
                          clear hd0
                          go_wp2
                          go_ret2
                          rw [HF3.out]
                          exact ⟨rfl, rfl⟩
                    · rw [decide_eq_false h46]
                      have HF2 : Hid (D.nf zs = D.nfE (zs.drop q)) := by show _ = _; rw [HF.out, HAT.out, D.nfF_no h46]
                      clear h46
                      go_wp2
                      go_meet
                      exact ⟨rfl, q, hql, rfl, HF2⟩
                  case rest =>
                    clear HF HAT hi1 hqe hql hpl
                    obtain ⟨rfl, q2, hq2, rfl, HF⟩ := hcut
                    go_upto_region 15 with fail
                    go_cut [78] from 61 to 78 (fun v wx => w = wx ∧ v = .bool (decide (q2 < l) && D.isE (zs.getD q2 0)))
                    case first =>
                      by_cases hlt : q2 < l
                      · have hcx := HC.out q2 hlt
                        have hi1 : (q2 : Int) < (l : Int) := by omega
                        generalize zs.getD q2 0 = z at *
                        by_cases h1 : z = 101
                        · subst h1
                          go_wp2
                          go_meet
                          exact ⟨rfl, congrArg Value.bool (by simp [hlt, D.isE])⟩
                        · have h1b : (z == 101) = false := by simpa using h1
                          go_wp2
                          go_meet
                          exact ⟨rfl, congrArg Value.bool (by rw [Bool.eq_iff_iff]; simp [hlt, D.isE, h1])⟩
                      · go_wp2
                        go_meet
                        exact ⟨rfl, congrArg Value.bool (by simp [hlt])⟩
                    case rest =>
                      obtain ⟨rfl, rfl⟩ := hcut
                      go_upto_if 78 with fail
                      go_cut [4] from 61 to 109 (fun v wx => w = wx ∧ ∃ q3 : Nat, q3 ≤ l ∧ v = .int .i64 q3 ∧ Hid (D.nf zs = ((zs.drop q3).isEmpty, false)))
                      case first =>
                        by_cases hlt : q2 < l
                        · by_cases hE : D.isE (zs.getD q2 0) = true
                          · have hv : (decide (q2 < l) && D.isE (zs.getD q2 0)) = true := by rw [hE, decide_eq_true hlt]; rfl
                            rw [hv]
                            have HE : Hid (D.isE (zs.getD q2 0) = true) := hE
                            have HF2 : Hid (D.nf zs = D.nfE (zs.getD q2 0 :: zs.drop (q2 + 1))) := by show _ = _; rw [HF.out, D.drop_at (by rw [HZ.out]; exact hlt)]
                            clear hv hE HF
                            go_upto_region 16 with fail
                            go_cut [4] from 61 to 80 (fun v wx => w = wx ∧ ∃ p4 : Nat, p4 ≤ l ∧ v = .int .i64 p4 ∧ Hid (p4 = q2 + 1))
                            case first =>
                              go_wp2
                              go_meet
                              exact ⟨rfl, q2 + 1, by omega, by go_num, rfl⟩
                            case rest =>
                              obtain ⟨rfl, p4, hp4, rfl, HP4⟩ := hcut
                              go_upto_region 17 with fail
                              go_cut [98] from 61 to 98 (fun v wx => w = wx ∧ v = .bool (decide (p4 < l) && decide (zs.getD p4 0 = 43 ∨ zs.getD p4 0 = 45)))
                              case first =>
                                by_cases hlt4 : p4 < l
                                · have hcx := HC.out p4 hlt4
                                  have hi1 : (p4 : Int) < (l : Int) := by omega
                                  generalize zs.getD p4 0 = z at *
                                  by_cases h1 : z = 43
                                  · subst h1
                                    go_wp2
                                    go_meet
                                    exact ⟨rfl, congrArg Value.bool (by simp [hlt4])⟩
                                  · have h1b : (z == 43) = false := by simpa using h1
                                    go_wp2
                                    go_meet
                                    exact ⟨rfl, congrArg Value.bool (by rw [Bool.eq_iff_iff]; simp [hlt4, h1])⟩
                                · go_wp2
                                  go_meet
                                  exact ⟨rfl, congrArg Value.bool (by simp [hlt4])⟩
                              case rest =>
                                obtain ⟨rfl, rfl⟩ := hcut
                                go_upto_if 98 with fail
                                go_cut [4] from 61 to 100 (fun v wx => w = wx ∧ ∃ p5 : Nat, p5 ≤ l ∧ v = .int .i64 p5 ∧ Hid (zs.drop p5 = D.strip (zs.drop (q2 + 1))))
                                case first =>
                                  have hg4 : (zs.drop (q2 + 1)).getD 0 0 = zs.getD p4 0 := by rw [HP4.out]; simp [List.getD]
                                  have hl4 : (zs.drop (q2 + 1)).length = l - p4 := by rw [List.length_drop, HZ.out, HP4.out]
                                  by_cases hsg : p4 < l ∧ (zs.getD p4 0 = 43 ∨ zs.getD p4 0 = 45)
                                  · have hv : (decide (p4 < l) && decide (zs.getD p4 0 = 43 ∨ zs.getD p4 0 = 45)) = true := by rw [decide_eq_true hsg.1, decide_eq_true hsg.2]; rfl
                                    rw [hv]
                                    have HS5 : Hid (zs.drop (p4 + 1) = D.strip (zs.drop (q2 + 1))) := by
                                      show _ = _
                                      rw [← D.strip_yes (by rw [hl4]; omega) (by rw [hg4]; exact hsg.2), List.drop_drop, HP4.out]
                                    have hp41 : p4 + 1 ≤ l := by omega
                                    clear hv hsg hg4 hl4
                                    go_wp2
                                    go_meet
                                    exact ⟨rfl, p4 + 1, hp41, by go_num, HS5⟩
                                  · have hv : (decide (p4 < l) && decide (zs.getD p4 0 = 43 ∨ zs.getD p4 0 = 45)) = false := by
                                      rw [Bool.and_eq_false_iff]
                                      by_cases h : p4 < l
                                      · exact .inr (decide_eq_false (fun hh => hsg ⟨h, hh⟩))
                                      · exact .inl (decide_eq_false h)
                                    rw [hv]
                                    have HS5 : Hid (zs.drop p4 = D.strip (zs.drop (q2 + 1))) := by
                                      show _ = _
                                      rw [← D.strip_no (fun h hh => hsg ⟨by omega, by rw [← hg4]; exact hh⟩), List.drop_zero, HP4.out]
                                    clear hv hsg hg4 hl4
                                    go_wp2
                                    go_meet
                                    exact ⟨rfl, p4, hp4, rfl, HS5⟩
                                case rest =>
                                  clear HP4 hp4
                                  obtain ⟨rfl, p5, hp5, rfl, HS5⟩ := hcut
                                  by_cases hp5l : p5 < l
                                  · go_wp2_with fail
                                    refine (digits_any _ _ _ (zs.drop p5) w (view_rest hV hp5 (by omega)) (by omega)).mono ?_
                                    rintro e w1 ⟨rfl, rfl⟩
                                    have hml := D.digs_le (zs.drop p5)
                                    rw [List.length_drop, HZ.out] at hml
                                    obtain ⟨m, hm⟩ : ∃ m, m = D.digs (zs.drop p5) := ⟨_, rfl⟩
                                    rw [← hm] at hml ⊢
                                    have HM : Hid (m = D.digs (zs.drop p5)) := hm
                                    clear hm
                                    by_cases hm0 : m = 0
                                    · subst hm0
                                      have HF3 : Hid (D.nf zs = (false, false)) := by show _ = _; rw [HF2.out, D.nfE_zero HE.out (by rw [← HS5.out, ← HM.out])]
                                      go_wp2
                                      go_ret2
                                      rw [HF3.out]
                                      exact ⟨rfl, rfl⟩
                                    · have hmb : ((m : Int) == 0) = false := by simp; omega
                                      have HF3 : Hid (D.nf zs = ((zs.drop (p5 + m)).isEmpty, false)) := by
                                        show _ = _
                                        rw [HF2.out, D.nfE_some HE.out (by rw [← HS5.out, ← HM.out]; exact hm0), ← HS5.out, ← HM.out, List.drop_drop]
                                      go_wp2
                                      go_meet
                                      exact ⟨rfl, p5 + m, by omega, by go_num, HF3⟩
                                  · obtain rfl : l = p5 := by omega
                                    have HF3 : Hid (D.nf zs = (false, false)) := by
                                      show _ = _
                                      rw [HF2.out, D.nfE_zero HE.out (by rw [← HS5.out, List.drop_eq_nil_of_le (by rw [HZ.out]; omega)]; rfl)]
                                    have hd0 : D.digs [] = 0 := rfl
                                    by_cases hcq : c = l
                                    · subst hcq
                                      go_wp2_with fail
                                      refine (digits_any _ _ _ [] w (view_zero _ _ _) (by omega)).mono ?_
                                      rintro e w1 ⟨rfl, rfl⟩
                                      rw [hd0]
                                      clear hd0
                                      go_wp2
                                      go_ret2
                                      rw [HF3.out]
                                      exact ⟨rfl, rfl⟩
                                    · go_wp2_with fail
                                      refine (digits_any _ _ _ [] w (view_zero _ _ _) (by omega)).mono ?_
                                      rintro e w1 ⟨rfl, rfl⟩
                                      rw [hd0]
                                      clear hd0
                                      go_wp2
                                      go_ret2
                                      rw [HF3.out]
                                      exact ⟨rfl, rfl⟩
                          · have hE2 : D.isE (zs.getD q2 0) = false := by simpa using hE
                            have hv : (decide (q2 < l) && D.isE (zs.getD q2 0)) = false := by rw [hE2, Bool.and_false]
                            rw [hv]
                            have HF2 : Hid (D.nf zs = ((zs.drop q2).isEmpty, false)) := by
                              show _ = _
                              rw [HF.out, D.drop_at (by rw [HZ.out]; exact hlt), D.nfE_no hE2]
                              rfl
                            clear hv hE hE2
                            go_wp2
                            go_meet
                            exact ⟨rfl, q2, hq2, rfl, HF2⟩
                        · have hv : (decide (q2 < l) && D.isE (zs.getD q2 0)) = false := by simp [hlt]
                          rw [hv]
                          have HF2 : Hid (D.nf zs = ((zs.drop q2).isEmpty, false)) := by
                            show _ = _
                            rw [HF.out, List.drop_eq_nil_of_le (by rw [HZ.out]; omega)]
                            rfl
                          clear hv
                          go_wp2
                          go_meet
                          exact ⟨rfl, q2, hq2, rfl, HF2⟩
                      case rest =>
                        clear HF
                        obtain ⟨rfl, q3, hq3, rfl, HF⟩ := hcut
                        have HV : Hid (((q3 : Int) == (l : Int)) = (zs.drop q3).isEmpty) := by
                          show _ = _
                          rw [Bool.eq_iff_iff]
                          simp [HZ.out]
                          omega
                        go_wp2
                        go_ret2
                        rw [HF.out, ← HV.out]
                        exact ⟨rfl, rfl⟩

set_option maxHeartbeats 800000 in
theorem form_zero (a : Option Addr) (c : Nat) (w : World) :
    Calls Try.prog 15 #[.slice a 0 c] w fun e w' => e = .returned (.tuple #[.bool (D.nf []).1, .bool (D.nf []).2]) ∧ w = w' := by
  have HF : Hid (D.nf [] = (false, false)) := rfl
  have hd0 : D.digs [] = 0 := rfl
  by_cases hc : c = 0
  · subst hc
    go_enter Try.func15, Try.ntmps15
    go_wp2_with fail
    refine (digits_any _ _ _ [] w (view_zero _ _ _) (by omega)).mono ?_
    rintro e w1 ⟨rfl, rfl⟩
    rw [hd0]
    clear hd0
    go_wp2
    go_ret2
    rw [HF.out]
    exact ⟨rfl, rfl⟩
  · go_enter Try.func15, Try.ntmps15
    go_wp2_with fail
    refine (digits_any _ _ _ [] w (view_zero _ _ _) (by omega)).mono ?_
    rintro e w1 ⟨rfl, rfl⟩
    rw [hd0]
    clear hd0
    go_wp2
    go_ret2
    rw [HF.out]
    exact ⟨rfl, rfl⟩

theorem form_any (a : Option Addr) (l c : Nat) (zs : List Int) (w : World) (hV : View w a l c zs) (hl : l ≤ 1048577) :
    Calls Try.prog 15 #[.slice a l c] w fun e w' => e = .returned (.tuple #[.bool (D.nf zs).1, .bool (D.nf zs).2]) ∧ w = w' := by
  obtain ⟨hz, hlc, h⟩ := hV
  by_cases hp : 0 < l
  · obtain ⟨b, off, rfl, hc⟩ := h hp
    exact form_some b off l c zs w hz hlc hl hp hc
  · obtain rfl : l = 0 := by omega
    obtain rfl := List.eq_nil_of_length_eq_zero hz
    exact form_zero a c w

set_option maxHeartbeats 400000 in
/-- the door that the laws go through: ZZnumberForm -/
theorem zzform_any (a : Option Addr) (l c : Nat) (zs : List Int) (w : World) (hV : View w a l c zs) (hl : l ≤ 1048577) :
    Calls Try.prog 8 #[.slice a l c] w fun e w' => e = .returned (.tuple #[.bool (D.nf zs).1, .bool (D.nf zs).2]) ∧ w = w' := by
  have HV : Hid (View w a l c zs) := hV
  clear hV
  go_enter Try.func8, Try.ntmps8
  go_wp2_with fail
  refine (form_any a l c zs w HV.out hl).mono ?_
  rintro e w1 ⟨rfl, rfl⟩
  go_wp2
  go_ret2
  exact ⟨rfl, rfl⟩
end Go.Proofs.Qxb6617207a
