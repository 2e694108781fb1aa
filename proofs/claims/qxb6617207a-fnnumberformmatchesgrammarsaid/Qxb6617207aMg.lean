import Derived.Test.Qxb6617207aForm
import Derived.Test.Qxb6617207aModel
namespace Go.Proofs.Qxb6617207a
open Go.RowKit
set_option linter.unusedVariables false

set_option maxHeartbeats 800000 in
theorem mg_walk (a : Option Addr) (len cap : Nat) (zs : List Int) (w : World) (hl : len ≤ 1048576) (hA : Arg w a len cap zs) :
    Calls Try.prog 3 #[.slice a len cap] w fun e w' => e = .returned (.bool true) ∧ Below w.heap.size w w' := by
  obtain ⟨i0, hi, hz0, hz1, hz2⟩ := info_parts Try.info5
  obtain ⟨hz, hlc, hnil, hcell, hr⟩ := hA
  have HCELL : Hid (∀ x, a = some x → ∀ j, j < len → w.cell? (x.add j) = some (.int .u8 (zs.getD j 0))) := hcell
  have HR : Hid (∀ j, 0 ≤ zs.getD j 0 ∧ zs.getD j 0 ≤ 255) := hr
  clear hcell hr
  have hneq := fun wx => run_neq_slice_nil_any (P := Try.prog) wx 22 5 a len cap 0 0 Try.underlying22
  go_enter Try.func3, Try.ntmps3
  go_upto_if 15 with (go_at_call 7; go_in)
  go_cut [0, 3] from 8 to 22 (fun v1 v5 wc => Copied w wc v1 zs)
  case first =>
    cases a with
    | none =>
      obtain ⟨rfl, rfl⟩ := hnil rfl
      go_wp2
      go_meet
      exact copied_nil (List.eq_nil_of_length_eq_zero hz)
    | some x =>
      clear hnil
      go_wp2_with (first
        | (refine wpList_make_full _ rfl _ _ 22 rfl w.heap.size 5 i0 (.int .u8 0) 1 Try.underlying22 hi hz0 hz1 .i64 .i64 _ _ len rfl rfl rfl rfl (by rw [hz2]; omega) (by unfold maxLen; omega) (Nat.le_refl _) ?_; intro w1 hown1 hgr1)
        | (refine wpList_copy_splice rfl (.tmp 19) (.tmp 20) 22 22 rfl 5 Try.underlying22 (by rw [hi]; simp [hz1]) _ _ _ _ _ _ rfl rfl w.heap.size 0 ((List.replicate len (0 : Int)).map (Value.int .u8)) 5 (copy_block hown1) (zs.map (Value.int .u8)) (by simp [hz]) (copy_src HCELL.out hz hgr1 rfl) (by simp [hz]) (ints_oneCell _ _) w.heap.size w ((Below.refl _ _).grown hgr1 (Nat.le_refl _) (fun _ h => by cases h)) (Nat.le_refl _) ?_; intro w2 HG2 hB2))
      go_meet
      subst hz
      exact copied_made (by unfold maxLen; omega) hB2 (Nat.le_refl _) HG2.out
  case rest =>
    obtain ⟨B1, a1, b1, off1, cap1, rfl, hlc1, han1, ha1, hb1, hc1⟩ := hcut
    clear hneq hnil HCELL hlc
    have HC1 : Hid (∀ j, j < zs.length → wc.cell? ⟨b1, off1 + j, none⟩ = some (.int .u8 (zs.getD j 0))) := hc1
    have HA1 : Hid (0 < zs.length → a1 = some ⟨b1, off1, none⟩) := ha1
    have HN1 : Hid (a1 = none → cap1 = 0) := han1
    have HB1 : Hid (0 < zs.length → b1 < wc.heap.size) := hb1
    clear hc1 ha1 han1 hb1
    subst hz
    have HV : Hid (View wc a1 zs.length cap1 zs) := ⟨rfl, hlc1, fun hp => ⟨b1, off1, HA1.out hp, HC1.out⟩⟩
    clear HA1 HB1 HC1 HN1
    go_wp2_with fail
    refine (zzform_any a1 zs.length cap1 zs wc HV.out (by omega)).mono ?_
    rintro e w4 ⟨rfl, rfl⟩
    go_wp2_with fail
    refine (model_any a1 zs.length cap1 zs wc HV.out (by omega)).mono ?_
    rintro e w5 ⟨rfl, rfl⟩
    rw [← D.nf_eq zs]
    generalize D.nf zs = r
    go_wp2
    go_ret
    exact ⟨rfl, B1⟩

set_option maxHeartbeats 400000 in
theorem mg_out (a : Option Addr) (len cap : Nat) (w : World) (hl : len ≤ maxLen) (h : 1048576 < len) :
    Calls Try.prog 3 #[.slice a len cap] w fun e w' => e = .returned (.bool true) ∧ Below w.heap.size w w' := by
  unfold maxLen at hl
  go_enter Try.func3, Try.ntmps3
  go_wp2
  go_ret
  exact ⟨rfl, Below.refl _ _⟩
end Go.Proofs.Qxb6617207a
