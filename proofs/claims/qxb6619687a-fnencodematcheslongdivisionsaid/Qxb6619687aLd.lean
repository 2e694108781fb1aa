import Derived.Test.Qxb6619687aModel
import Derived.Test.Qxb6619687aLz
namespace Go.Proofs.Qxb6619687a
open Go.RowKit
set_option linter.unusedVariables false

set_option maxHeartbeats 800000 in
theorem ld_walk (a : Option Addr) (len cap : Nat) (zs : List Int) (w : World) (hl : len ≤ 4096) (hA : Arg w a len cap zs) :
    Calls Try.prog 3 #[.slice a len cap] w fun e w' => e = .returned (.bool true) ∧ Below w.heap.size w w' := by
  obtain ⟨i0, hi, hz0, hz1, hz2⟩ := info_parts Try.info5
  obtain ⟨hz, hlc, hnil, hcell, hr⟩ := hA
  have HCELL : Hid (∀ x, a = some x → ∀ j, j < len → w.cell? (x.add j) = some (.int .u8 (zs.getD j 0))) := hcell
  have HR : Hid (∀ j, 0 ≤ zs.getD j 0 ∧ zs.getD j 0 ≤ 255) := hr
  clear hcell hr
  have hneq := fun wx => run_neq_slice_nil_any (P := Try.prog) wx 22 5 a len cap 0 0 Try.underlying22
  go_enter Try.func3, Try.ntmps3
  go_upto_if 13 with (go_at_call 6; go_in)
  go_cut [0, 3] from 6 to 20 (fun v1 v5 wc => Copied w wc v1 zs)
  case first =>
    cases a with
    | none =>
      obtain ⟨rfl, rfl⟩ := hnil rfl
      go_wp2
      go_meet
      exact copied_nil (List.eq_nil_of_length_eq_zero hz)
    | some x =>
      clear hnil
      go_wp2_with (first
        | (refine wpList_make_full _ rfl _ _ 22 rfl w.heap.size 5 i0 (.int .u8 0) 1 Try.underlying22 hi hz0 hz1 .i64 .i64 _ _ len rfl rfl rfl rfl (by rw [hz2]; omega) (by unfold maxLen; omega) (Nat.le_refl _) ?_; intro w1 hown1 hgr1)
        | (refine wpList_copy_splice rfl (.tmp 17) (.tmp 18) 22 22 rfl 5 Try.underlying22 (by rw [hi]; simp [hz1]) _ _ _ _ _ _ rfl rfl w.heap.size 0 ((List.replicate len (0 : Int)).map (Value.int .u8)) 5 (copy_block hown1) (zs.map (Value.int .u8)) (by simp [hz]) (copy_src HCELL.out hz hgr1 rfl) (by simp [hz]) (ints_oneCell _ _) w.heap.size w ((Below.refl _ _).grown hgr1 (Nat.le_refl _) (fun _ h => by cases h)) (Nat.le_refl _) ?_; intro w2 HG2 hB2))
      go_meet
      subst hz
      exact copied_made (by unfold maxLen; omega) hB2 (Nat.le_refl _) HG2.out
  case rest =>
    obtain ⟨B1, a1, b1, off1, cap1, rfl, hlc1, han1, ha1, hb1, hc1⟩ := hcut
    clear hneq hnil HCELL hlc
    have HC1 : Hid (∀ j, j < zs.length → wc.cell? ⟨b1, off1 + j, none⟩ = some (.int .u8 (zs.getD j 0))) := hc1
    have HA1 : Hid (0 < zs.length → a1 = some ⟨b1, off1, none⟩) := ha1
    have HN1 : Hid (a1 = none → cap1 = 0) := han1
    have HB1 : Hid (0 < zs.length → b1 < wc.heap.size) := hb1
    clear hc1 ha1 han1 hb1
    subst hz
    go_wp2_with fail
    refine (model_any a1 b1 off1 zs.length cap1 zs wc HB1.out hlc1 (by omega) rfl HA1.out HC1.out HR.out).mono ?_
    rintro e w4 ⟨t1, rfl, E1, B4⟩
    go_wp2_with fail
    refine (enc_any a1 b1 off1 zs.length cap1 zs w4 (fun h => Nat.lt_of_lt_of_le (HB1.out h) B4.size) hlc1 (by omega) rfl HA1.out HN1.out
      (fun j hj => (B4.cell (p := ⟨b1, off1 + j, none⟩) (HB1.out (by omega))).trans (HC1.out j hj)) HR.out).mono ?_
    rintro e w5 ⟨t2, rfl, E2, B5⟩
    have hfin : Below w.heap.size w w5 := B1.trans ((B4.trans (B5.mono B4.size)).mono B1.size)
    have ht := M.encText_unique E1 E2
    subst ht
    clear B4 B5 E1 E2 B1
    generalize strOfNums t1 = s1
    go_wp2
    go_ret
    exact ⟨rfl, hfin⟩

set_option maxHeartbeats 400000 in
theorem ld_out (a : Option Addr) (len cap : Nat) (w : World) (hl : len ≤ maxLen) (h : 4096 < len) :
    Calls Try.prog 3 #[.slice a len cap] w fun e w' => e = .returned (.bool true) ∧ Below w.heap.size w w' := by
  unfold maxLen at hl
  by_cases h1 : 1048576 < len
  · go_enter Try.func3, Try.ntmps3
    go_wp2
    go_ret
    exact ⟨rfl, Below.refl _ _⟩
  · go_enter Try.func3, Try.ntmps3
    go_wp2
    go_ret
    exact ⟨rfl, Below.refl _ _⟩
end Go.Proofs.Qxb6619687a
