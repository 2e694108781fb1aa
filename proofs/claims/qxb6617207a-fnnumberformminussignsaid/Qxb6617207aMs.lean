import Derived.Test.Qxb6617207aForm
import Derived.Test.Qxb6617207aModel
namespace Go.Proofs.Qxb6617207a
open Go.RowKit
set_option linter.unusedVariables false

/-- '-', then the first k of zs, then zeros -/
def negged (zs : List Int) (k : Nat) : List Int := 45 :: (zs.take k ++ List.replicate (zs.length - k) 0)
theorem negged_length (zs : List Int) (k : Nat) (h : k ≤ zs.length) : (negged zs k).length = zs.length + 1 := by simp [negged]; omega
theorem negged_start (zs : List Int) : (List.replicate (zs.length + 1) (0 : Int)).set 0 45 = negged zs 0 := by simp [negged, List.replicate_succ]
theorem negged_end (zs : List Int) : negged zs zs.length = 45 :: zs := by simp [negged]
theorem negged_round (zs : List Int) (k : Nat) (h : k < zs.length) (x : Int) (hx : x = zs.getD k 0) : (negged zs k).set (k + 1) x = negged zs (k + 1) := by
  have e2 : zs.take (k + 1) = zs.take k ++ [x] := by
    rw [List.take_succ_eq_append_getElem h, hx]; simp [h]
  unfold negged
  rw [List.set_cons_succ, List.set_append_right _ _ (by simp; omega), e2, show zs.length - k = (zs.length - (k + 1)) + 1 by omega, List.replicate_succ]
  have : k - (zs.take k).length = 0 := by simp; omega
  rw [this]
  simp

set_option maxHeartbeats 800000 in
set_option maxRecDepth 100000 in
theorem plain_any (a : Option Addr) (l c : Nat) (zs : List Int) (w : World) (hV : View w a l c zs) (hl : l ≤ 1048577) :
    Calls Try.prog 11 #[.slice a l c] w fun e w' => e = .returned (.bool (D.plain zs)) ∧ w = w' := by
  have HV : Hid (View w a l c zs) := hV
  have hlc := hV.2.1
  clear hV
  go_enter Try.func11, Try.ntmps11
  go_upto_region 2 with fail
  go_cut [13] from 4 to 13 (fun v wx => w = wx ∧ v = .bool (decide (0 < l ∧ zs.getD 0 0 = 45)))
  case first =>
    by_cases hp : 0 < l
    · obtain ⟨b, off, rfl, hc⟩ := HV.out.2.2 hp
      have hcx := hc 0 hp
      rw [Nat.add_zero] at hcx
      clear hc
      have hi1 : (0 : Int) < (l : Int) := by omega
      generalize zs.getD 0 0 = z at *
      go_wp2
      go_meet
      exact ⟨rfl, congrArg Value.bool (by rw [Bool.eq_iff_iff]; simp [hp])⟩
    · go_wp2
      go_meet
      exact ⟨rfl, congrArg Value.bool (by simp [hp])⟩
  case rest =>
    obtain ⟨rfl, rfl⟩ := hcut
    go_upto_if 13 with fail
    go_cut [3] from 4 to 15 (fun v wx => w = wx ∧ ∃ a4 l4 c4, v = .slice a4 l4 c4 ∧ l4 ≤ l ∧ Hid (View w a4 l4 c4 (D.sgn zs)))
    case first =>
      by_cases h45 : 0 < l ∧ zs.getD 0 0 = 45
      · rw [decide_eq_true h45]
        have HS : Hid (zs.drop 1 = D.sgn zs) := D.sgn_yes (by rw [HV.out.1]; exact h45.1) h45.2
        obtain ⟨b, off, rfl, hc⟩ := HV.out.2.2 h45.1
        have hp := h45.1
        clear h45 hc
        by_cases h1 : 1 < l
        · go_wp2
          go_meet
          refine ⟨rfl, _, _, _, rfl, by omega, ?_⟩
          show View _ _ _ _ _
          rw [← HS.out]
          exact view_tail HV.out hp (by omega)
        · obtain rfl : l = 1 := by omega
          have HE : Hid (D.sgn zs = []) := by show _ = _; rw [← HS.out]; exact List.drop_eq_nil_of_le (by rw [HV.out.1]; omega)
          by_cases hc1 : c = 1
          · subst hc1
            go_wp2
            go_meet
            refine ⟨rfl, _, _, _, rfl, by omega, ?_⟩
            show View _ _ _ _ _
            rw [HE.out]
            exact view_zero _ _ _
          · go_wp2
            go_meet
            refine ⟨rfl, _, _, _, rfl, by omega, ?_⟩
            show View _ _ _ _ _
            rw [HE.out]
            exact view_zero _ _ _
      · rw [decide_eq_false h45]
        have HS : Hid (D.sgn zs = zs) := D.sgn_not zs (by rw [HV.out.1]; exact h45)
        clear h45
        go_wp2
        go_meet
        refine ⟨rfl, a, l, c, rfl, Nat.le_refl _, ?_⟩
        show View _ _ _ _ _
        rw [HS.out]
        exact HV.out
    case rest =>
      obtain ⟨rfl, a4, l4, c4, rfl, hl4, HV4⟩ := hcut
      have HPL : Hid (D.plain zs = (D.allD (D.sgn zs) && (decide ((D.sgn zs).length = 1) || !decide ((D.sgn zs).getD 0 0 = 48)))) := rfl
      clear HV
      go_wp2_with fail
      refine (all_any a4 l4 c4 (D.sgn zs) w HV4.out (by omega)).mono ?_
      rintro e w1 ⟨rfl, rfl⟩
      generalize D.sgn zs = s at *
      by_cases hs : D.allD s = true
      · rw [hs]
        have HP : Hid (D.plain zs = (decide (l4 = 1) || !decide (s.getD 0 0 = 48))) := by show _ = _; rw [HPL.out, hs, HV4.out.1]; rfl
        have hp4 : 0 < l4 := by
          have h1 := (D.allD_iff s).1 hs
          have h2 := D.digs_le s
          rw [HV4.out.1] at h2
          omega
        obtain ⟨b4, off4, rfl, hc4⟩ := HV4.out.2.2 hp4
        have hcx := hc4 0 hp4
        rw [Nat.add_zero] at hcx
        clear hc4 hs HPL
        generalize s.getD 0 0 = z at *
        by_cases h1 : l4 = 1
        · subst h1
          go_wp2
          go_ret
          rw [HP.out]
          exact ⟨rfl, rfl⟩
        · have h1b : ((l4 : Int) == 1) = false := by simp; omega
          go_wp2
          go_ret
          rw [HP.out]
          refine ⟨congrArg (fun b => Ending.returned (Value.bool b)) ?_, rfl⟩
          rw [decide_eq_false h1]
          by_cases hz : z = 48 <;> simp [hz]
      · have hsf : D.allD s = false := by simpa using hs
        rw [hsf]
        have HP : Hid (D.plain zs = false) := by show _ = _; rw [HPL.out, hsf]; rfl
        clear hs hsf HPL
        go_wp2
        go_ret
        rw [HP.out]
        exact ⟨rfl, rfl⟩

set_option maxHeartbeats 1600000 in
set_option maxRecDepth 100000 in
theorem ms_walk (a : Option Addr) (len cap : Nat) (zs : List Int) (w : World) (hl : len ≤ 1048576) (hA : Arg w a len cap zs) :
    Calls Try.prog 4 #[.slice a len cap] w fun e w' => e = .returned (.bool true) ∧ Below w.heap.size w w' := by
  obtain ⟨i0, hi, hz0, hz1, hz2⟩ := info_parts Try.info5
  obtain ⟨hz, hlc, hnil, hcell, hr⟩ := hA
  have HCELL : Hid (∀ x, a = some x → ∀ j, j < len → w.cell? (x.add j) = some (.int .u8 (zs.getD j 0))) := hcell
  have HR : Hid (∀ j, 0 ≤ zs.getD j 0 ∧ zs.getD j 0 ≤ 255) := hr
  clear hcell hr
  have hneq := fun wx => run_neq_slice_nil_any (P := Try.prog) wx 22 5 a len cap 0 0 Try.underlying22
  go_enter Try.func4, Try.ntmps4
  go_upto_if 18 with (go_at_call 10; go_in)
  go_cut [0, 3] from 11 to 25 (fun v1 v5 wc => Copied w wc v1 zs)
  case first =>
    cases a with
    | none =>
      obtain ⟨rfl, rfl⟩ := hnil rfl
      go_wp2
      go_meet
      exact copied_nil (List.eq_nil_of_length_eq_zero hz)
    | some x =>
      clear hnil
      go_wp2_with (first
        | (refine wpList_make_full _ rfl _ _ 22 rfl w.heap.size 5 i0 (.int .u8 0) 1 Try.underlying22 hi hz0 hz1 .i64 .i64 _ _ len rfl rfl rfl rfl (by rw [hz2]; omega) (by unfold maxLen; omega) (Nat.le_refl _) ?_; intro w1 hown1 hgr1)
        | (refine wpList_copy_splice rfl (.tmp 22) (.tmp 23) 22 22 rfl 5 Try.underlying22 (by rw [hi]; simp [hz1]) _ _ _ _ _ _ rfl rfl w.heap.size 0 ((List.replicate len (0 : Int)).map (Value.int .u8)) 5 (copy_block hown1) (zs.map (Value.int .u8)) (by simp [hz]) (copy_src HCELL.out hz hgr1 rfl) (by simp [hz]) (ints_oneCell _ _) w.heap.size w ((Below.refl _ _).grown hgr1 (Nat.le_refl _) (fun _ h => by cases h)) (Nat.le_refl _) ?_; intro w2 HG2 hB2))
      go_meet
      subst hz
      exact copied_made (by unfold maxLen; omega) hB2 (Nat.le_refl _) HG2.out
  case rest =>
    obtain ⟨B1, a1, b1, off1, cap1, rfl, hlc1, han1, ha1, hb1, hc1⟩ := hcut
    clear hneq hnil HCELL hlc
    have HC1 : Hid (∀ j, j < zs.length → wc.cell? ⟨b1, off1 + j, none⟩ = some (.int .u8 (zs.getD j 0))) := hc1
    have HA1 : Hid (0 < zs.length → a1 = some ⟨b1, off1, none⟩) := ha1
    have HN1 : Hid (a1 = none → cap1 = 0) := han1
    have HB1 : Hid (0 < zs.length → b1 < wc.heap.size) := hb1
    clear hc1 ha1 han1 hb1
    subst hz
    have HV : Hid (View wc a1 zs.length cap1 zs) := ⟨rfl, hlc1, fun hp => ⟨b1, off1, HA1.out hp, HC1.out⟩⟩
    go_wp2_with fail
    refine (zzform_any a1 zs.length cap1 zs wc HV.out (by omega)).mono ?_
    rintro e w4 ⟨rfl, rfl⟩
    generalize hr1 : D.nf zs = r1
    have HR1 : Hid (D.nf zs = r1) := hr1
    clear hr1
    go_upto_region 11 with (refine wpList_make_full _ rfl _ _ 22 rfl wc.heap.size 5 i0 (.int .u8 0) 1 Try.underlying22 hi hz0 hz1 .i64 .i64 _ _ (zs.length + 1) rfl rfl (by omega) (by omega) (by rw [hz2]; omega) (by unfold maxLen; omega) (Nat.le_refl _) ?_; intro w3 hown3 hgr3)
    obtain ⟨g, hg⟩ : ∃ g, g = wc.heap.size := ⟨_, rfl⟩
    rw [← hg] at hown3
    have O3 : Own 5 .u8 w3 wc.heap.size g (zs.length + 1) (List.replicate (zs.length + 1) 0) := by rw [← hg]; exact Own.full hown3
    rw [← hg]
    have B3 : Below wc.heap.size wc w3 := (Below.refl _ _).grown hgr3 (Nat.le_refl _) (fun _ h => by cases h)
    clear hg hown3 hgr3
    have hcc := O3.cell (j := 0) (by simp)
    have hfz := O3.frz 0
    go_wp2_with fail
    have O4 := O3.set 0 45
    rw [negged_start] at O4
    have B4 := O3.below B3 (Nat.le_refl _) 0 (.int .u8 45)
    clear hcc hfz O3 B3
    generalize w3.setCell ⟨g, 0, none⟩ (Value.int IntKind.u8 45) = w4 at *
    go_loopw [7] (fun i wr => ∃ n : Nat, n ≤ zs.length ∧ i = .int .i64 n ∧ Own 5 .u8 wr wc.heap.size g (zs.length + 1) (negged zs n) ∧ Below wc.heap.size wc wr) (fun i _ => zs.length - (intOf i).toNat)
    case atStart => exact ⟨0, Nat.zero_le _, rfl, O4, B4⟩
    case round =>
      clear O4 B4
      obtain ⟨n, hn, rfl, O, hB⟩ := hrel
      by_cases hlt : n < zs.length
      · obtain rfl := HA1.out (by omega)
        have hcx := (hB.cell (p := ⟨b1, off1 + n, none⟩) (HB1.out (by omega))).trans (HC1.out n hlt)
        have hfz := O.frz (n + 1)
        have hcc := O.cell (j := n + 1) (by rw [negged_length _ _ hn]; omega)
        obtain ⟨d, hd⟩ : ∃ d, d = zs.getD n 0 := ⟨_, rfl⟩
        rw [← hd] at hcx
        have Hd : Hid (d = zs.getD n 0) := hd
        clear hd
        go_wp2
        go_roundw
        case rel =>
          refine ⟨n + 1, by omega, by go_num, ?_, O.below hB (Nat.le_refl _) _ _⟩
          have h := O.set (n + 1) d
          rw [negged_round zs n hlt d Hd.out] at h
          exact h
        case measure => simp [intOf]; omega
      · obtain rfl : n = zs.length := by omega
        rw [negged_end] at O
        have HV2 : Hid (View wr (some ⟨g, 0, none⟩) (zs.length + 1) (zs.length + 1) (45 :: zs)) :=
          ⟨by simp, Nat.le_refl _, fun _ => ⟨g, 0, rfl, fun j hj => by rw [Nat.zero_add]; exact O.cell (by simpa using hj)⟩⟩
        have HV1 : Hid (View wr a1 zs.length cap1 zs) := ⟨rfl, hlc1, fun hp => ⟨b1, off1, HA1.out hp, fun j hj => (hB.cell (p := ⟨b1, off1 + j, none⟩) (HB1.out hp)).trans (HC1.out j hj)⟩⟩
        have hfin : Below w.heap.size w wr := B1.trans (hB.mono B1.size)
        clear O hB HV HA1 HB1 HC1 HN1 B1
        go_wp2_with fail
        refine (zzform_any (some ⟨g, 0, none⟩) (zs.length + 1) (zs.length + 1) (45 :: zs) wr HV2.out (by omega)).mono ?_
        rintro e w5 ⟨rfl, rfl⟩
        generalize hr2 : D.nf (45 :: zs) = r2
        have HR2 : Hid (D.nf (45 :: zs) = r2) := hr2
        clear hr2
        go_upto_region 18 with fail
        go_cut [64] from 56 to 64 (fun v wx => wr = wx ∧ v = .bool (decide (0 < zs.length ∧ zs.getD 0 0 = 45)))
        case first =>
          by_cases hp : 0 < zs.length
          · obtain ⟨b, off, rfl, hc⟩ := HV1.out.2.2 hp
            have hcx := hc 0 hp
            rw [Nat.add_zero] at hcx
            clear hc
            have hi1 : (0 : Int) < (zs.length : Int) := by omega
            generalize zs.getD 0 0 = z at *
            go_wp2
            go_meet
            exact ⟨rfl, congrArg Value.bool (by rw [Bool.eq_iff_iff]; simp [hp])⟩
          · go_wp2
            go_meet
            exact ⟨rfl, congrArg Value.bool (by simp [hp])⟩
        case rest =>
          obtain ⟨rfl, rfl⟩ := hcut
          go_upto_if 64 with fail
          go_cut [10] from 56 to 78 (fun v wx => wr = wx ∧ v = .bool true)
          case first =>
            by_cases h45 : 0 < zs.length ∧ zs.getD 0 0 = 45
            · rw [decide_eq_true h45]
              have h2 : r2 = (false, false) := by
                rw [← HR2.out]
                have e : zs = 45 :: zs.drop 1 := by
                  have := D.drop_at (zs := zs) (q := 0) h45.1
                  rw [h45.2] at this
                  simpa using this
                rw [e]; exact D.nf_minus_minus _
              subst h2
              clear h45
              go_wp2
              go_meet
              exact ⟨rfl, rfl⟩
            · rw [decide_eq_false h45]
              have h2 : r2 = r1 := by rw [← HR2.out, ← HR1.out]; exact D.nf_minus zs (D.sgn_not zs h45)
              subst h2
              clear h45
              go_wp2
              go_meet
              exact ⟨rfl, rfl⟩
          case rest =>
            obtain ⟨rfl, rfl⟩ := hcut
            go_wp2_with fail
            refine (plain_any a1 zs.length cap1 zs wr HV1.out (by omega)).mono ?_
            rintro e w6 ⟨rfl, rfl⟩
            by_cases hpl : D.plain zs = true
            · rw [hpl]
              have h1 : r1 = (true, true) := by rw [← HR1.out]; exact D.nf_plain zs hpl
              subst h1
              clear hpl
              go_wp2
              go_ret
              exact ⟨rfl, hfin⟩
            · have hpf : D.plain zs = false := by simpa using hpl
              rw [hpf]
              clear hpl hpf
              go_wp2
              go_ret
              exact ⟨rfl, hfin⟩

set_option maxHeartbeats 400000 in
theorem ms_out (a : Option Addr) (len cap : Nat) (w : World) (hl : len ≤ maxLen) (h : 1048576 < len) :
    Calls Try.prog 4 #[.slice a len cap] w fun e w' => e = .returned (.bool true) ∧ Below w.heap.size w w' := by
  unfold maxLen at hl
  go_enter Try.func4, Try.ntmps4
  go_wp2
  go_ret
  exact ⟨rfl, Below.refl _ _⟩
end Go.Proofs.Qxb6617207a
