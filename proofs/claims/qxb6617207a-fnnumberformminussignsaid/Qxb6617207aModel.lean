import Derived.Test.Qxb6617207aAll
namespace Go.Proofs.Qxb6617207a
open Go.RowKit
set_option linter.unusedVariables false

/-- text[1:] of a text that has a first byte -/
theorem view_tail {w : World} {b off l c : Nat} {zs : List Int} (h : View w (some ⟨b, off, none⟩) l c zs) (hl : 1 ≤ l) (hic : ¬ c = 1) : View w (some ⟨b, off + 1, none⟩) (l - 1) (c - 1) (zs.drop 1) := view_rest h hl hic

set_option maxHeartbeats 1600000 in
set_option maxRecDepth 100000 in
theorem model_any (a : Option Addr) (l c : Nat) (zs : List Int) (w : World) (hV : View w a l c zs) (hl : l ≤ 1048577) :
    Calls Try.prog 9 #[.slice a l c] w fun e w' => e = .returned (.tuple #[.bool (D.nm zs).1, .bool (D.nm zs).2]) ∧ w = w' := by
  have HV : Hid (View w a l c zs) := hV
  have hlc := hV.2.1
  clear hV
  go_enter Try.func9, Try.ntmps9
  go_upto_region 2 with fail
  go_cut [25] from 16 to 25 (fun v wx => w = wx ∧ v = .bool (decide (0 < l ∧ zs.getD 0 0 = 45)))
  case first =>
    by_cases hp : 0 < l
    · obtain ⟨b, off, rfl, hc⟩ := HV.out.2.2 hp
      have hcx := hc 0 hp
      rw [Nat.add_zero] at hcx
      clear hc
      have hi1 : (0 : Int) < (l : Int) := by omega
      generalize zs.getD 0 0 = z at *
      go_wp2
      go_meet
      exact ⟨rfl, congrArg Value.bool (by rw [Bool.eq_iff_iff]; simp [hp])⟩
    · go_wp2
      go_meet
      exact ⟨rfl, congrArg Value.bool (by simp [hp])⟩
  case rest =>
    obtain ⟨rfl, rfl⟩ := hcut
    go_upto_if 25 with fail
    go_cut [4] from 16 to 27 (fun v wx => w = wx ∧ ∃ a4 l4 c4, v = .slice a4 l4 c4 ∧ l4 ≤ l ∧ Hid (View w a4 l4 c4 (D.sgn zs)))
    case first =>
      by_cases h45 : 0 < l ∧ zs.getD 0 0 = 45
      · rw [decide_eq_true h45]
        have HS : Hid (zs.drop 1 = D.sgn zs) := D.sgn_yes (by rw [HV.out.1]; exact h45.1) h45.2
        obtain ⟨b, off, rfl, hc⟩ := HV.out.2.2 h45.1
        have hp := h45.1
        clear h45 hc
        by_cases h1 : 1 < l
        · go_wp2
          go_meet
          refine ⟨rfl, _, _, _, rfl, by omega, ?_⟩
          show View _ _ _ _ _
          rw [← HS.out]
          exact view_tail HV.out hp (by omega)
        · obtain rfl : l = 1 := by omega
          have HE : Hid (D.sgn zs = []) := by show _ = _; rw [← HS.out]; exact List.drop_eq_nil_of_le (by rw [HV.out.1]; omega)
          by_cases hc1 : c = 1
          · subst hc1
            go_wp2
            go_meet
            refine ⟨rfl, _, _, _, rfl, by omega, ?_⟩
            show View _ _ _ _ _
            rw [HE.out]
            exact view_zero _ _ _
          · go_wp2
            go_meet
            refine ⟨rfl, _, _, _, rfl, by omega, ?_⟩
            show View _ _ _ _ _
            rw [HE.out]
            exact view_zero _ _ _
      · rw [decide_eq_false h45]
        have HS : Hid (D.sgn zs = zs) := D.sgn_not zs (by rw [HV.out.1]; exact h45)
        clear h45
        go_wp2
        go_meet
        refine ⟨rfl, a, l, c, rfl, Nat.le_refl _, ?_⟩
        show View _ _ _ _ _
        rw [HS.out]
        exact HV.out
    case rest =>
      obtain ⟨rfl, a4, l4, c4, rfl, hl4, HV4⟩ := hcut
      obtain ⟨s, hs⟩ : ∃ s, s = D.sgn zs := ⟨_, rfl⟩
      rw [← hs] at HV4
      have HSS : Hid (s = D.sgn zs) := hs
      clear hs
      go_upto_block 0 with fail
      go_cut [5, 6] from 28 to 46 (fun v5 v6 wx => w = wx ∧ ∃ kk : Int, v5 = .int .i64 kk ∧ Hid ((kk = -1 ∧ D.cutE s = (s, none)) ∨ ∃ k : Nat, k < l4 ∧ kk = k ∧ D.cutE s = (s.take k, some (s.drop (k + 1)))))
      case first =>
        go_wp2_with fail
        go_loop [5, 6] (fun v5 v6 => v5 = .int .i64 (-1) ∧ ∃ k : Nat, k ≤ l4 ∧ v6 = .int .i64 k ∧ Hid (∀ i, i < k → D.isE (s.getD i 0) = false)) (fun _ v6 => l4 - (intOf v6).toNat)
        case atStart => exact ⟨rfl, 0, Nat.zero_le _, rfl, fun j hj => absurd hj (Nat.not_lt_zero j)⟩
        case round =>
          obtain ⟨rfl, k, hk, rfl, HD⟩ := hrel
          by_cases hlt : k < l4
          · obtain ⟨b4, off4, rfl, hc4⟩ := HV4.out.2.2 (by omega)
            have hcx := hc4 k hlt
            clear hc4
            by_cases hE : D.isE (s.getD k 0) = true
            · have HF : Hid (D.cutE s = (s.take k, some (s.drop (k + 1)))) := D.cutE_some s k (by rw [HV4.out.1]; exact hlt) HD.out hE
              simp only [D.isE, decide_eq_true_eq] at hE
              generalize s.getD k 0 = z at *
              by_cases h1 : z = 101
              · subst h1
                clear hE
                go_wp2
                go_meet
                exact ⟨rfl, _, rfl, .inr ⟨k, hlt, rfl, HF.out⟩⟩
              · have h2 : z = 69 := by omega
                subst h2
                clear hE h1
                go_wp2
                go_meet
                exact ⟨rfl, _, rfl, .inr ⟨k, hlt, rfl, HF.out⟩⟩
            · have H0 : Hid (D.isE (s.getD k 0) = false) := (Bool.not_eq_true _).mp hE
              simp only [D.isE, decide_eq_true_eq] at hE
              generalize s.getD k 0 = z at hcx hE
              have h1 : (z == 101) = false := by simp; omega
              have h2 : (z == 69) = false := by simp; omega
              clear hE
              go_wp2
              go_round
              case rel =>
                refine ⟨rfl, k + 1, by omega, by go_num, fun j hj => ?_⟩
                rcases Nat.lt_or_ge j k with h | h
                · exact HD.out j h
                · obtain rfl : j = k := by omega
                  exact H0.out
              case measure => simp [intOf]; omega
          · have HF : Hid (D.cutE s = (s, none)) := D.cutE_none s (fun i hi => HD.out i (by rw [HV4.out.1] at hi; omega))
            go_wp2
            go_meet
            exact ⟨rfl, _, rfl, .inl ⟨rfl, HF.out⟩⟩
      case rest =>
        obtain ⟨rfl, kk, rfl, HKK⟩ := hcut
        go_upto_if 49 with fail
        go_cut [7, 8, 9] from 28 to 56 (fun v7 v8 v9 wx => w = wx ∧ ∃ a7 l7 c7 a8 l8 c8 mant ex, v7 = .slice a7 l7 c7 ∧ v8 = .slice a8 l8 c8 ∧ v9 = .bool (Option.isSome ex) ∧ l7 ≤ l4 ∧ l8 ≤ l4 ∧ Hid (D.cutE s = (mant, ex)) ∧ Hid (View w a7 l7 c7 mant) ∧ Hid (∀ x, ex = some x → View w a8 l8 c8 x))
        case first =>
          rcases HKK.out with ⟨rfl, hf⟩ | ⟨k, hk, rfl, hf⟩
          · have HF : Hid (D.cutE s = (s, none)) := hf
            clear hf
            go_wp2
            go_meet
            exact ⟨rfl, a4, l4, c4, none, 0, 0, s, none, rfl, rfl, rfl, Nat.le_refl _, Nat.zero_le _, HF, HV4, fun x hx => by cases hx⟩
          · have HF : Hid (D.cutE s = (s.take k, some (s.drop (k + 1)))) := hf
            clear hf
            obtain ⟨b4, off4, rfl, hc4⟩ := HV4.out.2.2 (by omega)
            clear hc4
            have hlc4 := HV4.out.2.1
            by_cases hk1 : k + 1 < l4
            · go_wp2
              go_meet
              exact ⟨rfl, _, _, _, _, _, _, s.take k, some (s.drop (k + 1)), rfl, rfl, rfl, by omega, by omega, HF, HV4.out.take (by omega) (fun _ => rfl), fun x hx => by cases hx; exact view_rest HV4.out (by omega) (by omega)⟩
            · obtain rfl : l4 = k + 1 := by omega
              have HE : Hid (s.drop (k + 1) = []) := List.drop_eq_nil_of_le (by rw [HV4.out.1]; omega)
              by_cases hck : c4 = k + 1
              · subst hck
                go_wp2
                go_meet
                exact ⟨rfl, _, _, _, _, _, _, s.take k, some (s.drop (k + 1)), rfl, rfl, rfl, by omega, by omega, HF, HV4.out.take (by omega) (fun _ => rfl), fun x hx => by cases hx; rw [HE.out]; exact view_zero _ _ _⟩
              · go_wp2
                go_meet
                exact ⟨rfl, _, _, _, _, _, _, s.take k, some (s.drop (k + 1)), rfl, rfl, rfl, by omega, by omega, HF, HV4.out.take (by omega) (fun _ => rfl), fun x hx => by cases hx; rw [HE.out]; exact view_zero _ _ _⟩
        case rest =>
          obtain ⟨rfl, a7, l7, c7, a8, l8, c8, mant, ex, rfl, rfl, rfl, hl7, hl8, HCE, HV7, HV8⟩ := hcut
          clear HKK HV4 HV
          go_upto_block 2 with fail
          go_cut [10, 11] from 57 to 68 (fun v5 v6 wx => w = wx ∧ ∃ kk : Int, v5 = .int .i64 kk ∧ Hid ((kk = -1 ∧ D.cutD mant = (mant, none)) ∨ ∃ k : Nat, k < l7 ∧ kk = k ∧ D.cutD mant = (mant.take k, some (mant.drop (k + 1)))))
          case first =>
            go_wp2_with fail
            go_loop [10, 11] (fun v5 v6 => v5 = .int .i64 (-1) ∧ ∃ k : Nat, k ≤ l7 ∧ v6 = .int .i64 k ∧ Hid (∀ i, i < k → ¬ mant.getD i 0 = 46)) (fun _ v6 => l7 - (intOf v6).toNat)
            case atStart => exact ⟨rfl, 0, Nat.zero_le _, rfl, fun j hj => absurd hj (Nat.not_lt_zero j)⟩
            case round =>
              obtain ⟨rfl, k, hk, rfl, HD⟩ := hrel
              by_cases hlt : k < l7
              · obtain ⟨b7, off7, rfl, hc7⟩ := HV7.out.2.2 (by omega)
                have hcx := hc7 k hlt
                clear hc7
                by_cases hE : mant.getD k 0 = 46
                · have HF : Hid (D.cutD mant = (mant.take k, some (mant.drop (k + 1)))) := D.cutD_some mant k (by rw [HV7.out.1]; exact hlt) HD.out hE
                  rw [hE] at hcx
                  clear hE
                  go_wp2
                  go_meet
                  exact ⟨rfl, _, rfl, .inr ⟨k, hlt, rfl, HF.out⟩⟩
                · have H0 : Hid (¬ mant.getD k 0 = 46) := hE
                  generalize mant.getD k 0 = z at hcx hE
                  have h1 : (z == 46) = false := by simpa using hE
                  clear hE
                  go_wp2
                  go_round
                  case rel =>
                    refine ⟨rfl, k + 1, by omega, by go_num, fun j hj => ?_⟩
                    rcases Nat.lt_or_ge j k with h | h
                    · exact HD.out j h
                    · obtain rfl : j = k := by omega
                      exact H0.out
                  case measure => simp [intOf]; omega
              · have HF : Hid (D.cutD mant = (mant, none)) := D.cutD_none mant (fun i hi => HD.out i (by rw [HV7.out.1] at hi; omega))
                go_wp2
                go_meet
                exact ⟨rfl, _, rfl, .inl ⟨rfl, HF.out⟩⟩
          case rest =>
            obtain ⟨rfl, kk2, rfl, HKK⟩ := hcut
            go_upto_if 71 with fail
            go_cut [12, 13, 14] from 57 to 78 (fun v7 v8 v9 wx => w = wx ∧ ∃ a12 l12 c12 a13 l13 c13 int fr, v7 = .slice a12 l12 c12 ∧ v8 = .slice a13 l13 c13 ∧ v9 = .bool (Option.isSome fr) ∧ l12 ≤ l7 ∧ l13 ≤ l7 ∧ Hid (D.cutD mant = (int, fr)) ∧ Hid (View w a12 l12 c12 int) ∧ Hid (∀ x, fr = some x → View w a13 l13 c13 x))
            case first =>
              rcases HKK.out with ⟨rfl, hf⟩ | ⟨k, hk, rfl, hf⟩
              · have HF : Hid (D.cutD mant = (mant, none)) := hf
                clear hf
                go_wp2
                go_meet
                exact ⟨rfl, a7, l7, c7, none, 0, 0, mant, none, rfl, rfl, rfl, Nat.le_refl _, Nat.zero_le _, HF, HV7, fun x hx => by cases hx⟩
              · have HF : Hid (D.cutD mant = (mant.take k, some (mant.drop (k + 1)))) := hf
                clear hf
                obtain ⟨b7, off7, rfl, hc7⟩ := HV7.out.2.2 (by omega)
                clear hc7
                have hlc7 := HV7.out.2.1
                by_cases hk1 : k + 1 < l7
                · go_wp2
                  go_meet
                  exact ⟨rfl, _, _, _, _, _, _, mant.take k, some (mant.drop (k + 1)), rfl, rfl, rfl, by omega, by omega, HF, HV7.out.take (by omega) (fun _ => rfl), fun x hx => by cases hx; exact view_rest HV7.out (by omega) (by omega)⟩
                · obtain rfl : l7 = k + 1 := by omega
                  have HE : Hid (mant.drop (k + 1) = []) := List.drop_eq_nil_of_le (by rw [HV7.out.1]; omega)
                  by_cases hck : c7 = k + 1
                  · subst hck
                    go_wp2
                    go_meet
                    exact ⟨rfl, _, _, _, _, _, _, mant.take k, some (mant.drop (k + 1)), rfl, rfl, rfl, by omega, by omega, HF, HV7.out.take (by omega) (fun _ => rfl), fun x hx => by cases hx; rw [HE.out]; exact view_zero _ _ _⟩
                  · go_wp2
                    go_meet
                    exact ⟨rfl, _, _, _, _, _, _, mant.take k, some (mant.drop (k + 1)), rfl, rfl, rfl, by omega, by omega, HF, HV7.out.take (by omega) (fun _ => rfl), fun x hx => by cases hx; rw [HE.out]; exact view_zero _ _ _⟩
            case rest =>
              obtain ⟨rfl, a12, l12, c12, a13, l13, c13, int, fr, rfl, rfl, rfl, hl12, hl13, HCD, HV12, HV13⟩ := hcut
              clear HKK HV7
              have HNM : Hid (D.nm zs = D.nmI int fr ex) := D.nm_of (by rw [← HSS.out]; exact HCE.out) HCD.out
              clear HSS HCE HCD
              go_wp2_with fail
              refine (all_any a12 l12 c12 int w HV12.out (by omega)).mono ?_
              rintro e w1 ⟨rfl, rfl⟩
              by_cases hi : D.allD int = false
              · rw [hi]
                have HF : Hid (D.nm zs = (false, false)) := by show _ = _; rw [HNM.out, D.nmI_int hi]
                clear hi
                go_wp2
                go_ret2
                rw [HF.out]
                exact ⟨rfl, rfl⟩
              · have hit : D.allD int = true := by simpa using hi
                rw [hit]
                have HI : Hid (D.allD int = true) := hit
                clear hi hit
                go_upto_region 32 with fail
                go_cut [90] from 79 to 90 (fun v wx => w = wx ∧ v = .bool (decide (1 < l12 ∧ int.getD 0 0 = 48)))
                case first =>
                  by_cases h1 : 1 < l12
                  · obtain ⟨b12, off12, rfl, hc12⟩ := HV12.out.2.2 (by omega)
                    have hcx := hc12 0 (by omega)
                    rw [Nat.add_zero] at hcx
                    clear hc12
                    generalize int.getD 0 0 = z at *
                    go_wp2
                    go_meet
                    exact ⟨rfl, congrArg Value.bool (by rw [Bool.eq_iff_iff]; simp [h1])⟩
                  · go_wp2
                    go_meet
                    exact ⟨rfl, congrArg Value.bool (by simp [h1])⟩
                case rest =>
                  obtain ⟨rfl, rfl⟩ := hcut
                  by_cases hlead : 1 < l12 ∧ int.getD 0 0 = 48
                  · rw [decide_eq_true hlead]
                    have HF : Hid (D.nm zs = (false, false)) := by show _ = _; rw [HNM.out, D.nmI_lead (by rw [HV12.out.1]; exact hlead)]
                    clear hlead
                    go_wp2
                    go_ret2
                    rw [HF.out]
                    exact ⟨rfl, rfl⟩
                  · rw [decide_eq_false hlead]
                    have HLD : Hid (¬ (1 < int.length ∧ int.getD 0 0 = 48)) := by show ¬ _; rw [HV12.out.1]; exact hlead
                    clear hlead HV12
                    go_upto_region 34 with fail
                    go_cut [96] from 79 to 96 (fun v wx => w = wx ∧ v = .bool (D.badF fr))
                    case first =>
                      cases fr with
                      | none =>
                        go_wp2
                        go_meet
                        exact ⟨rfl, rfl⟩
                      | some x =>
                        have hsome : (some x).isSome = true := rfl
                        rw [hsome]
                        clear hsome
                        have HX : Hid (D.badF (some x) = !D.allD x) := rfl
                        go_wp2_with fail
                        refine (all_any a13 l13 c13 x w (HV13.out x rfl) (by omega)).mono ?_
                        rintro e w1 ⟨rfl, rfl⟩
                        generalize D.allD x = ax at *
                        go_wp2
                        go_meet
                        exact ⟨rfl, by rw [HX.out]⟩
                    case rest =>
                      obtain ⟨rfl, rfl⟩ := hcut
                      by_cases hbf : D.badF fr = true
                      · rw [hbf]
                        have HF : Hid (D.nm zs = (false, false)) := by show _ = _; rw [HNM.out, D.nmI_frac hbf]
                        clear hbf
                        go_wp2
                        go_ret2
                        rw [HF.out]
                        exact ⟨rfl, rfl⟩
                      · have hbff : D.badF fr = false := by simpa using hbf
                        rw [hbff]
                        have HBF : Hid (D.badF fr = false) := hbff
                        clear hbf hbff HV13
                        go_upto_if 97 with fail
                        go_cut [15] from 79 to 118 (fun v wx => w = wx ∧ Hid (D.badX ex = false))
                        case first =>
                          cases ex with
                          | none =>
                            go_wp2
                            go_meet
                            exact ⟨rfl, rfl⟩
                          | some x =>
                            have hsome : (some x).isSome = true := rfl
                            rw [hsome]
                            clear hsome
                            have HV8x : Hid (View w a8 l8 c8 x) := HV8.out x rfl
                            clear HV8
                            go_upto_region 38 with fail
                            go_cut [113] from 98 to 113 (fun v wx => w = wx ∧ v = .bool (decide (0 < l8 ∧ (x.getD 0 0 = 43 ∨ x.getD 0 0 = 45))))
                            case first =>
                              by_cases hp8 : 0 < l8
                              · obtain ⟨b8, off8, rfl, hc8⟩ := HV8x.out.2.2 hp8
                                have hcx := hc8 0 hp8
                                rw [Nat.add_zero] at hcx
                                clear hc8
                                have hi8 : (0 : Int) < (l8 : Int) := by omega
                                generalize x.getD 0 0 = z at *
                                by_cases h1 : z = 43
                                · subst h1
                                  go_wp2
                                  go_meet
                                  exact ⟨rfl, congrArg Value.bool (by simp [hp8])⟩
                                · have h1b : (z == 43) = false := by simpa using h1
                                  go_wp2
                                  go_meet
                                  exact ⟨rfl, congrArg Value.bool (by rw [Bool.eq_iff_iff]; simp [hp8, h1])⟩
                              · go_wp2
                                go_meet
                                exact ⟨rfl, congrArg Value.bool (by simp [hp8])⟩
                            case rest =>
                              obtain ⟨rfl, rfl⟩ := hcut
                              go_upto_if 113 with fail
                              go_cut [15] from 98 to 115 (fun v wx => w = wx ∧ ∃ a15 l15 c15, v = .slice a15 l15 c15 ∧ l15 ≤ l8 ∧ Hid (View w a15 l15 c15 (D.strip x)))
                              case first =>
                                by_cases hsg : 0 < l8 ∧ (x.getD 0 0 = 43 ∨ x.getD 0 0 = 45)
                                · rw [decide_eq_true hsg]
                                  have HS : Hid (x.drop 1 = D.strip x) := D.strip_yes (by rw [HV8x.out.1]; exact hsg.1) hsg.2
                                  obtain ⟨b8, off8, rfl, hc8⟩ := HV8x.out.2.2 hsg.1
                                  have hp8 := hsg.1
                                  have hlc8 := HV8x.out.2.1
                                  clear hsg hc8
                                  by_cases h1 : 1 < l8
                                  · go_wp2
                                    go_meet
                                    refine ⟨rfl, _, _, _, rfl, by omega, ?_⟩
                                    show View _ _ _ _ _
                                    rw [← HS.out]
                                    exact view_tail HV8x.out hp8 (by omega)
                                  · obtain rfl : l8 = 1 := by omega
                                    have HE : Hid (D.strip x = []) := by show _ = _; rw [← HS.out]; exact List.drop_eq_nil_of_le (by rw [HV8x.out.1]; omega)
                                    by_cases hc1 : c8 = 1
                                    · subst hc1
                                      go_wp2
                                      go_meet
                                      refine ⟨rfl, _, _, _, rfl, by omega, ?_⟩
                                      show View _ _ _ _ _
                                      rw [HE.out]
                                      exact view_zero _ _ _
                                    · go_wp2
                                      go_meet
                                      refine ⟨rfl, _, _, _, rfl, by omega, ?_⟩
                                      show View _ _ _ _ _
                                      rw [HE.out]
                                      exact view_zero _ _ _
                                · rw [decide_eq_false hsg]
                                  have HS : Hid (x.drop 0 = D.strip x) := D.strip_no (fun h hh => hsg ⟨by rw [← HV8x.out.1]; exact h, hh⟩)
                                  clear hsg
                                  go_wp2
                                  go_meet
                                  refine ⟨rfl, a8, l8, c8, rfl, Nat.le_refl _, ?_⟩
                                  show View _ _ _ _ _
                                  rw [← HS.out]
                                  exact HV8x.out
                              case rest =>
                                obtain ⟨rfl, a15, l15, c15, rfl, hl15, HV15⟩ := hcut
                                go_wp2_with fail
                                refine (all_any a15 l15 c15 (D.strip x) w HV15.out (by omega)).mono ?_
                                rintro e w1 ⟨rfl, rfl⟩
                                have HX : Hid (D.badX (some x) = !D.allD (D.strip x)) := rfl
                                by_cases hax : D.allD (D.strip x) = true
                                · rw [hax]
                                  have HBX : Hid (D.badX (some x) = false) := by show _ = _; rw [HX.out, hax]; rfl
                                  clear hax HX
                                  go_wp2
                                  go_meet
                                  exact ⟨rfl, HBX⟩
                                · have haxf : D.allD (D.strip x) = false := by simpa using hax
                                  rw [haxf]
                                  have HF : Hid (D.nm zs = (false, false)) := by show _ = _; rw [HNM.out, D.nmI_exp (by rw [HX.out, haxf]; rfl)]
                                  clear hax haxf HX
                                  go_wp2
                                  go_ret2
                                  rw [HF.out]
                                  exact ⟨rfl, rfl⟩
                        case rest =>
                          obtain ⟨rfl, HBX⟩ := hcut
                          have HF : Hid (D.nm zs = (true, fr.isNone && ex.isNone)) := by show _ = _; rw [HNM.out, D.nmI_ok HI.out HLD.out HBF.out HBX.out]
                          clear HNM HI HLD HBF HBX HV8
                          cases fr with
                          | none =>
                            cases ex with
                            | none =>
                              go_wp2
                              go_ret2
                              rw [HF.out]
                              exact ⟨rfl, rfl⟩
                            | some x =>
                              go_wp2
                              go_ret2
                              rw [HF.out]
                              exact ⟨rfl, rfl⟩
                          | some y =>
                            go_wp2
                            go_ret2
                            rw [HF.out]
                            exact ⟨rfl, rfl⟩
end Go.Proofs.Qxb6617207a
