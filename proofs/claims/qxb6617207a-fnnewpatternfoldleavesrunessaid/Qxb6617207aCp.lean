import Derived.Test.Qxb6617207aParts
namespace Go.Proofs.Qxb6617207a
open Go.RowKit
set_option linter.unusedVariables false

theorem Pt.opened {w : World} {B : Nat} {v : Value} {C : List Int} (h : Pt w B v C) :
    ∃ a g cp, v = .slice a C.length cp ∧ Hid (0 < C.length → a = some ⟨g, 0, none⟩ ∧ Own 21 .i32 w B g cp C) := by
  rcases h with ⟨rfl, rfl⟩ | ⟨g, cp, rfl, O⟩
  · exact ⟨none, 0, 0, rfl, fun h => absurd h (by simp)⟩
  · exact ⟨_, g, cp, rfl, fun _ => ⟨rfl, O⟩⟩

/-- '[]rune(s)' -/
theorem runes_made (w : World) (s : ByteArray) (h : s.size ≤ 1048576) : ∃ cp w',
    (convert 9 27 (.string s)).run Try.prog w = .ok (.slice (some ⟨w.heap.size, 0, none⟩) (P.runes s s.size 0).length cp) w' ∧
    Own 21 .i32 w' w.heap.size w.heap.size cp (P.runes s s.size 0) ∧ Below w.heap.size w w' := by
  have e : Conv.runesFrom s s.size 0 #[] = ((P.runes s s.size 0).map (Value.int .i32)).toArray := by rw [P.runesFrom_eq]; simp
  have hlen := P.runes_length s s.size 0
  have hr := run_runes_of_string (P := Try.prog) w 9 27 21 s Try.underlying9 Try.underlying27 Try.underlying21 (by rw [e]; simp; omega)
  rw [e] at hr
  simp only [List.size_toArray, List.length_map] at hr
  generalize P.runes s s.size 0 = all at *
  have hge := grownCap_ge w all.length 0 21
  have hle := grownCap_le_maxLen w all.length 0 21 (by unfold maxLen; omega)
  refine ⟨_, _, hr, ⟨by simp, .inr ⟨w.heap.size, _, _, rfl, Nat.le_refl _, heap_alloc_new w.drew _, hge, hle, ?_, ?_⟩⟩, ((Below.refl _ _).drew).alloc (Nat.le_refl _) _⟩
  · simp; omega
  · simp

set_option maxHeartbeats 1600000 in
set_option maxRecDepth 100000 in
theorem cp_walk (a : Option Addr) (len cap : Nat) (zs : List Int) (fold : Bool) (w : World) (hl : len ≤ 1048576) (hA : Arg w a len cap zs) :
    Calls Try.prog 5 #[.slice a len cap, .bool fold] w fun e w' => e = .returned (.bool true) ∧ Below w.heap.size w w' := by
  obtain ⟨i0, hi, hz0, hz1, hz2⟩ := info_parts Try.info5
  obtain ⟨hz, hlc, hnil, hcell, hr⟩ := hA
  have HCELL : Hid (∀ x, a = some x → ∀ j, j < len → w.cell? (x.add j) = some (.int .u8 (zs.getD j 0))) := hcell
  have HR : Hid (∀ j, 0 ≤ zs.getD j 0 ∧ zs.getD j 0 ≤ 255) := hr
  clear hcell hr
  have hneq := fun wx => run_neq_slice_nil_any (P := Try.prog) wx 22 5 a len cap 0 0 Try.underlying22
  go_enter Try.func5, Try.ntmps5
  go_upto_if 19 with (go_at_call 12; go_in)
  go_cut [0, 5] from 11 to 26 (fun v1 v5 wc => Copied w wc v1 zs)
  case first =>
    cases a with
    | none =>
      obtain ⟨rfl, rfl⟩ := hnil rfl
      go_wp2
      go_meet
      exact copied_nil (List.eq_nil_of_length_eq_zero hz)
    | some x =>
      clear hnil
      go_wp2_with (first
        | (refine wpList_make_full _ rfl _ _ 22 rfl w.heap.size 5 i0 (.int .u8 0) 1 Try.underlying22 hi hz0 hz1 .i64 .i64 _ _ len rfl rfl rfl rfl (by rw [hz2]; omega) (by unfold maxLen; omega) (Nat.le_refl _) ?_; intro w1 hown1 hgr1)
        | (refine wpList_copy_splice rfl (.tmp 23) (.tmp 24) 22 22 rfl 5 Try.underlying22 (by rw [hi]; simp [hz1]) _ _ _ _ _ _ rfl rfl w.heap.size 0 ((List.replicate len (0 : Int)).map (Value.int .u8)) 5 (copy_block hown1) (zs.map (Value.int .u8)) (by simp [hz]) (copy_src HCELL.out hz hgr1 rfl) (by simp [hz]) (ints_oneCell _ _) w.heap.size w ((Below.refl _ _).grown hgr1 (Nat.le_refl _) (fun _ h => by cases h)) (Nat.le_refl _) ?_; intro w2 HG2 hB2))
      go_meet
      subst hz
      exact copied_made (by unfold maxLen; omega) hB2 (Nat.le_refl _) HG2.out
  case rest =>
    obtain ⟨B1, a1, b1, off1, cap1, rfl, hlc1, han1, ha1, hb1, hc1⟩ := hcut
    clear hneq hnil HCELL hlc
    have HC1 : Hid (∀ j, j < zs.length → wc.cell? ⟨b1, off1 + j, none⟩ = some (.int .u8 (zs.getD j 0))) := hc1
    have HA1 : Hid (0 < zs.length → a1 = some ⟨b1, off1, none⟩) := ha1
    have HN1 : Hid (a1 = none → cap1 = 0) := han1
    have HB1 : Hid (0 < zs.length → b1 < wc.heap.size) := hb1
    clear hc1 ha1 han1 hb1
    subst hz
    go_wp2_with fail
    refine (parts_any a1 b1 off1 zs.length cap1 zs fold wc HB1.out (by omega) rfl HA1.out HC1.out).mono ?_
    rintro e w4 ⟨v, rfl, hP, B4⟩
    have B4s := B4.size
    have hcv : (convert 22 9 (.slice a1 zs.length cap1)).run Try.prog w4 = .ok (.string (strOfNums zs)) w4 := by
      by_cases h0 : 0 < zs.length
      · rw [HA1.out h0]
        exact run_convert_bytes_arg (P := Try.prog) w4 22 5 Try.underlying22 Try.underlying5 b1 off1 zs.length cap1 zs rfl
          (fun i hi => (B4.cell (p := ⟨b1, off1 + i, none⟩) (HB1.out h0)).trans (HC1.out i hi)) 9 Try.underlying9
      · have h1 : zs.length = 0 := by omega
        have h2 := List.eq_nil_of_length_eq_zero h1
        rw [h1, h2]
        exact run_convert_empty _ 22 5 9 Try.underlying22 Try.underlying5 Try.underlying9 a1 cap1
    have hss : (strOfNums zs).size ≤ 1048576 := by rw [strOfNums_size]; exact hl
    generalize strOfNums zs = s at hP hcv hss
    obtain ⟨cp8, w5, hcr, O8, B8⟩ := runes_made w4 s hss
    have hal := P.runes_length s s.size 0
    have B5 : Below w.heap.size w w5 := B1.trans ((B4.trans (B8.mono B4s)).mono B1.size)
    have hP5 : Pt w5 (wc.heap.size + 2) v (P.cols (P.runes s s.size 0)) := by
      rcases hP with h | ⟨g, cp, h1, h2⟩
      · exact .inl h
      · exact .inr ⟨g, cp, h1, Own.kept h2 (row := none) ⟨B8.os, B8.tape, B8.output, B8.size, fun k hk _ => B8.block k hk⟩ (by simp)⟩
    clear hP B4 B8 B1 B4s
    generalize P.runes s s.size 0 = all at *
    obtain ⟨a6, g6, cp6, rfl, HP⟩ := hP5.opened
    clear hP5
    obtain ⟨g8, hg8⟩ : ∃ g8, g8 = w4.heap.size := ⟨_, rfl⟩
    rw [← hg8] at hcr O8
    have hcl : (P.cols all).length ≤ all.length := by
      have := P.cols_length all all.length (Nat.le_refl _)
      rw [List.take_of_length_le (Nat.le_refl _)] at this
      exact this
    clear hg8
    go_wp2_with fail
    clear hcv hcr
    go_loopw [9, 10] (fun v9 v10 wr => ∃ k : Nat, k ≤ all.length ∧ v10 = .int .i64 k ∧ v9 = .int .i64 (P.cols (all.take k)).length ∧ Own 21 .i32 wr g8 g8 cp8 all ∧
        Hid (0 < (P.cols all).length → a6 = some ⟨g6, 0, none⟩ ∧ Own 21 .i32 wr (wc.heap.size + 2) g6 cp6 (P.cols all)) ∧ Below w.heap.size w wr)
      (fun _ v10 _ => all.length - (intOf v10).toNat)
    case atStart => exact ⟨0, Nat.zero_le _, rfl, rfl, O8, HP, B5⟩
    case round =>
      clear O8 HP B5
      obtain ⟨k, hk, rfl, rfl, O, HP, hB⟩ := hrel
      have hnl := P.cols_length all k hk
      by_cases hlt : k < all.length
      · have hck := O.cell (j := k) hlt
        obtain ⟨z, hz⟩ : ∃ z, z = all.getD k 0 := ⟨_, rfl⟩
        rw [← hz] at hck
        have HZ : Hid (z = all.getD k 0) := hz
        clear hz
        go_upto_region 15 with fail
        go_cut [58] from 42 to 58 (fun c wx => c = .bool (P.dropB all k) ∧ wr = wx)
        case first =>
          by_cases hz37 : z = 37
          · subst hz37
            by_cases hk0 : 0 < k
            · have hcp := O.cell (j := k - 1) (by omega)
              obtain ⟨y, hy⟩ : ∃ y, y = all.getD (k - 1) 0 := ⟨_, rfl⟩
              rw [← hy] at hcp
              have HY : Hid (y = all.getD (k - 1) 0) := hy
              clear hy
              have ht1 : ((k : Int) - 1).toNat = k - 1 := by omega
              have hi1 : (0 : Int) < (k : Int) := by omega
              go_wp2
              go_meet
              refine ⟨congrArg Value.bool ?_, rfl⟩
              unfold P.dropB
              rw [← HZ.out, ← HY.out]
              by_cases h : y = 37 <;> simp [h, hk0]
            · go_wp2
              go_meet
              refine ⟨congrArg Value.bool ?_, rfl⟩
              unfold P.dropB
              simp [hk0]
          · have hzb : (z == 37) = false := by simpa using hz37
            go_wp2
            go_meet
            refine ⟨congrArg Value.bool ?_, rfl⟩
            unfold P.dropB
            rw [← HZ.out]
            simp [hz37]
        case rest =>
          obtain ⟨rfl, rfl⟩ := hcut
          by_cases hdr : P.drop? all k
          · rw [P.dropB_yes hdr]
            have HC : Hid (P.cols (all.take (k + 1)) = P.cols (all.take k)) := P.cols_yes hlt hdr
            clear hdr
            go_wp2
            go_roundw
            case rel => exact ⟨k + 1, by omega, by go_num, by rw [HC.out], O, HP, hB⟩
            case measure => simp [intOf]; omega
          · rw [P.dropB_no hdr]
            have HC : Hid (P.cols (all.take (k + 1)) = P.cols (all.take k) ++ [all.getD k 0]) := P.cols_no hlt hdr
            obtain ⟨hn1, hn2⟩ := P.cols_next hlt hdr
            obtain ⟨rfl, O6⟩ := HP.out (by omega)
            have hcn := O6.cell hn1
            rw [hn2, ← HZ.out] at hcn
            clear hdr hn2
            have hge : decide (((P.cols all).length : Int) ≤ ((P.cols (all.take k)).length : Int)) = false := decide_eq_false (by omega)
            have hi1 : ((P.cols (all.take k)).length : Int) < ((P.cols all).length : Int) := by omega
            have hi2 : (k : Int) < (all.length : Int) := by omega
            go_wp2_with fail
            go_quiet (fail)
            go_wp2
            go_roundw
            case rel => exact ⟨k + 1, by omega, by go_num, by rw [HC.out]; simp, O, HP, below_drewN hB _⟩
            case measure => simp [intOf]; omega
      · obtain rfl : k = all.length := by omega
        have hfull : P.cols (all.take all.length) = P.cols all := by rw [List.take_of_length_le (Nat.le_refl _)]
        rw [hfull]
        clear hfull
        go_wp2
        go_ret
        exact ⟨rfl, hB⟩

set_option maxHeartbeats 400000 in
theorem cp_out (a : Option Addr) (len cap : Nat) (fold : Bool) (w : World) (hl : len ≤ maxLen) (h : 1048576 < len) :
    Calls Try.prog 5 #[.slice a len cap, .bool fold] w fun e w' => e = .returned (.bool true) ∧ Below w.heap.size w w' := by
  unfold maxLen at hl
  go_enter Try.func5, Try.ntmps5
  go_wp2
  go_ret
  exact ⟨rfl, Below.refl _ _⟩
end Go.Proofs.Qxb6617207a
