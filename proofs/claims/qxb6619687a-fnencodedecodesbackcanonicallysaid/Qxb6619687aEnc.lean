import Derived.Test.Qxb6619687aRows
import Derived.Test.Qxb6619687aMath
import Derived.Test.Qxb6619687aOwn
import Derived.WalkKit
import Derived.ProofKit
import Derived.OpenShut
import Derived.ShutString
import Derived.ChangeOld
import Derived.Below
import Derived.Laws.BytesArg
import Derived.Deep.LoopGhost
import Derived.Deep.CutBlock
import Derived.Deep.DeepCutAuto
import Derived.WalkSpells
namespace Go.Proofs.Qxb6619687a
open Go.RowKit

theorem Try.info5 : (Try.prog.info? 5).map (fun i => (i.zero, i.size, i.bytes)) = some (some (.int .u8 0), 1, 1) := by kernel_rfl

theorem alph_nat : ∀ n : Fin 58, ((ByteArray.mk #[49, 50, 51, 52, 53, 54, 55, 56, 57, 65, 66, 67, 68, 69, 70, 71, 72, 74, 75, 76, 77, 78, 80, 81, 82, 83, 84, 85, 86, 87, 88, 89, 90, 97, 98, 99, 100, 101, 102, 103, 104, 105, 106, 107, 109, 110, 111, 112, 113, 114, 115, 116, 117, 118, 119, 120, 121, 122])[n.val]'(by have := n.isLt; exact this)).toNat = (M.alphabet.getD n.val 0).toNat := by decide +kernel
theorem alph_pos : ∀ n : Fin 58, 0 ≤ M.alphabet.getD n.val 0 := by decide +kernel
theorem alph_at (d : Int) (h : d.toNat < (ByteArray.mk #[49, 50, 51, 52, 53, 54, 55, 56, 57, 65, 66, 67, 68, 69, 70, 71, 72, 74, 75, 76, 77, 78, 80, 81, 82, 83, 84, 85, 86, 87, 88, 89, 90, 97, 98, 99, 100, 101, 102, 103, 104, 105, 106, 107, 109, 110, 111, 112, 113, 114, 115, 116, 117, 118, 119, 120, 121, 122]).size) :
    (((ByteArray.mk #[49, 50, 51, 52, 53, 54, 55, 56, 57, 65, 66, 67, 68, 69, 70, 71, 72, 74, 75, 76, 77, 78, 80, 81, 82, 83, 84, 85, 86, 87, 88, 89, 90, 97, 98, 99, 100, 101, 102, 103, 104, 105, 106, 107, 109, 110, 111, 112, 113, 114, 115, 116, 117, 118, 119, 120, 121, 122])[d.toNat]'h).toNat : Int) = M.alph d := by
  have h1 := alph_nat ⟨d.toNat, h⟩
  have h2 := alph_pos ⟨d.toNat, h⟩
  simp only at h1 h2
  rw [h1]
  unfold M.alph
  omega

set_option maxHeartbeats 800000 in
theorem enc_any (a : Option Addr) (b off len cap : Nat) (zs : List Int) (w : World) (hb : 0 < len → b < w.heap.size) (hlc : len ≤ cap) (hl : len ≤ 8192) (hz : zs.length = len)
    (ha : 0 < len → a = some ⟨b, off, none⟩) (han : a = none → cap = 0)
    (hc : ∀ j, j < len → w.cell? ⟨b, off + j, none⟩ = some (.int .u8 (zs.getD j 0))) (hr : ∀ j, 0 ≤ zs.getD j 0 ∧ zs.getD j 0 ≤ 255) :
    Calls Try.prog 8 #[.slice a len cap] w fun e w' => ∃ ts, e = .returned (.string (strOfNums ts)) ∧ M.EncText zs ts ∧ Below w.heap.size w w' := by
  obtain ⟨i0, hi, hz0, hz1, hz2⟩ := info_parts Try.info5
  go_enter Try.func8, Try.ntmps8
  go_upto_block 0 with fail
  go_cut [3] (fun z wc => w = wc ∧ ∃ k : Nat, z = .int .i64 k ∧ M.lz zs = k)
  case first =>
    go_wp2_with fail
    go_loop [3] (fun i => ∃ k : Nat, k ≤ len ∧ i = .int .i64 k ∧ Hid (∀ j, j < k → zs.getD j 0 = 0)) (fun i => len - (intOf i).toNat)
    case atStart => exact ⟨0, Nat.zero_le _, rfl, fun j hj => absurd hj (Nat.not_lt_zero j)⟩
    case round =>
      obtain ⟨k, hk, rfl, HZ⟩ := hrel
      by_cases hkl : k < len
      · obtain rfl := ha (by omega)
        have hcx := hc k hkl
        clear hc
        by_cases h0 : zs.getD k 0 = 0
        · rw [h0] at hcx
          have H0 : Hid (zs.getD k 0 = 0) := h0
          clear h0
          go_wp2
          go_round
          case rel =>
            refine ⟨k + 1, by omega, by go_num, fun j hj => ?_⟩
            rcases Nat.lt_or_ge j k with h | h
            · exact HZ.out j h
            · obtain rfl : j = k := by omega
              exact H0.out
          case measure => simp [intOf]; omega
        · have HL : Hid (M.lz zs = k) := M.lz_eq zs k (by omega) HZ.out (fun _ => h0)
          generalize zs.getD k 0 = z at hcx h0
          have h0b : (z == 0) = false := by simpa using h0
          clear h0
          go_wp2
          go_meet
          exact ⟨rfl, k, rfl, HL.out⟩
      · clear hc
        have HL : Hid (M.lz zs = k) := M.lz_eq zs k (by omega) HZ.out (fun h => absurd h (by omega))
        go_wp2
        go_meet
        exact ⟨rfl, k, rfl, HL.out⟩
  case rest =>
    obtain ⟨rfl, k, rfl, hk0⟩ := hcut
    have HK : Hid (M.lz zs = k) := hk0
    have hkl : k ≤ len := by have := M.lz_le zs; omega
    clear hk0
    go_upto_region 5 with (refine wpList_make_own _ rfl _ _ 22 rfl w.heap.size 5 i0 (.int .u8 0) 1 Try.underlying22 hi hz0 hz1 .i64 .i64 _ ((len - k) * 138 / 100 + 1) rfl rfl (by omega) (by rw [hz2]; omega) (by unfold maxLen; omega) (Nat.le_refl _) ?_; intro w1 hown1 hgr1)
    go_cut [37, 38, 39] from 27 to 39 (fun s37 s38 s39 wc => w1 = wc ∧ s38 = .int .i64 (len - k : Nat) ∧ s39 = .int .i64 0 ∧ ∃ a' c', s37 = .slice a' (len - k) c' ∧ (k < len → a' = some ⟨b, off + k, none⟩))
    case first =>
      by_cases hkl2 : k < len
      · obtain rfl := ha (by omega)
        clear hc hown1 hgr1
        go_wp2
        go_meet
        exact ⟨rfl, rfl, rfl, _, _, rfl, fun _ => rfl⟩
      · clear hc hown1 hgr1
        cases a with
        | none => 
          obtain rfl := han rfl
          go_wp2
          go_meet
          exact ⟨rfl, rfl, rfl, _, _, rfl, fun h => absurd h hkl2⟩
        | some a =>
          by_cases hkc : k < cap
          · go_wp2
            go_meet
            exact ⟨rfl, rfl, rfl, _, _, rfl, fun h => absurd h hkl2⟩
          · go_wp2
            go_meet
            exact ⟨rfl, rfl, rfl, _, _, rfl, fun h => absurd h hkl2⟩
    case rest =>
      obtain ⟨rfl, rfl, rfl, a', c', rfl, ha'⟩ := hcut
      go_upto_block 2 with fail
      have O1 : Own 5 .u8 w1 w.heap.size w.heap.size ((len - k) * 138 / 100 + 1) [] := hown1
      have B1 : Below w.heap.size w w1 := (Below.refl _ _).grown hgr1 (Nat.le_refl _) (fun _ h => by cases h)
      clear hown1 hgr1
      obtain ⟨ys, hys⟩ : ∃ ys, ys = zs.drop k := ⟨_, rfl⟩
      have hyl : ys.length = len - k := by rw [hys, List.length_drop, hz]
      have hyc : ∀ j, j < len - k → w.cell? ⟨b, off + k + j, none⟩ = some (.int .u8 (ys.getD j 0)) := by
        intro j hj
        rw [hys, Nat.add_assoc, hc (k + j) (by omega)]
        simp [List.getD]
      have hyr : ∀ j, 0 ≤ ys.getD j 0 ∧ ys.getD j 0 ≤ 255 := by
        intro j
        have := hr (k + j)
        rw [hys]
        simpa [List.getD] using this
      have HY : Hid (ys = zs.drop k) := hys
      have HYL : Hid (ys.length = len - k) := hyl
      have HYC : Hid (∀ j, j < len - k → w.cell? ⟨b, off + k + j, none⟩ = some (.int .u8 (ys.getD j 0))) := hyc
      have HYR : Hid (∀ j, 0 ≤ ys.getD j 0 ∧ ys.getD j 0 ≤ 255) := hyr
      clear hys hyl hyc hyr hc hr
      go_cut [4] from 35 to 76 (fun v4 wc => ∃ g cp ds, v4 = .slice (some ⟨g, 0, none⟩) ds.length cp ∧ Own 5 .u8 wc w.heap.size g cp ds ∧ M.Conv ys ds ys.length ∧ Below w.heap.size w wc)
      case first =>
        go_wp2_with fail
        go_loopw [4, 39] (fun v4 i wr => ∃ g cp ds, ∃ j : Nat, j ≤ len - k ∧ i = .int .i64 j ∧ v4 = .slice (some ⟨g, 0, none⟩) ds.length cp ∧ Own 5 .u8 wr w.heap.size g cp ds ∧ M.Conv ys ds j ∧ Below w.heap.size w wr)
          (fun _ i _ => (len - k) - (intOf i).toNat)
        case atStart => exact ⟨w.heap.size, _, [], 0, Nat.zero_le _, rfl, rfl, O1, M.conv_start _, B1⟩
        case round =>
          obtain ⟨g, cp, ds, j, hj, rfl, rfl, O, C, hB⟩ := hrel
          by_cases hlt : j < len - k
          · obtain rfl := ha' (by omega)
            have hcx : wr.cell? ⟨b, off + k + j, none⟩ = some (.int .u8 (ys.getD j 0)) := (hB.cell (by exact hb (by omega))).trans (HYC.out j hlt)
            have hyj := HYR.out j
            obtain ⟨y, hy⟩ : ∃ y, y = ys.getD j 0 := ⟨_, rfl⟩
            rw [← hy] at hcx hyj
            have Hy : Hid (y = ys.getD j 0) := hy
            clear hy
            have hdl := C.2.2
            go_wp2_with fail
            clear hcx
            obtain ⟨wo, rfl⟩ : ∃ wo : World, wo = wr := ⟨_, rfl⟩
            go_loopw [7, 47] (fun c i wr => ∃ xs, ∃ cy : Int, ∃ n : Nat, n ≤ ds.length ∧ i = .int .i64 n ∧ c = .int .i64 cy ∧ Own 5 .u8 wr w.heap.size g cp xs ∧ M.Inner ds xs n cy (ys.getD j 0 + 256 * M.valT 58 ds 0) ∧ Below w.heap.size w wr)
              (fun _ i _ => ds.length - (intOf i).toNat)
            case atStart => exact ⟨ds, y, 0, Nat.zero_le _, rfl, rfl, O, by rw [← Hy.out]; exact M.inner_start ds y C.1.1 hyj.1 hyj.2, hB⟩
            case round =>
              obtain ⟨xs, cy, n, hn, rfl, rfl, O3, I3, B3⟩ := hrel
              by_cases hn2 : n < ds.length
              · have hxl : xs.length = ds.length := I3.1
                have hcc := O3.cell (j := n) (by omega)
                have hfz := O3.frz n
                have hxr := M.rng_getD I3.2.1 (i := n) (by omega)
                have hcy0 := I3.2.2.1
                have hcy1 := I3.2.2.2.1
                obtain ⟨d, hd⟩ : ∃ d, d = xs.getD n 0 := ⟨_, rfl⟩
                rw [← hd] at hcc hxr
                have Hd : Hid (d = xs.getD n 0) := hd
                clear hd hxl
                go_wp2
                go_roundw
                case rel =>
                  exact ⟨xs.set n ((cy + d * 256) % 58), _, n + 1, by omega, by go_num, rfl, O3.set n _, M.inner_round I3 C.1.2 hn2 Hd.out, O3.below B3 (Nat.le_refl _) _ _⟩
                case measure => simp [intOf]; omega
              · obtain rfl : n = ds.length := by omega
                have hxl : xs.length = ds.length := I3.1
                have U4 := M.conv_outer C (by rw [HYL.out]; exact hlt) I3
                have HX : Hid (xs.length = ds.length) := hxl
                clear hxl
                go_wp2_with fail
                obtain ⟨wo2, rfl⟩ : ∃ wo2 : World, wo2 = wr := ⟨_, rfl⟩
                go_loopw [4, 7] (fun v4 c wr => ∃ g cp xs, ∃ cy : Int, c = .int .i64 cy ∧ v4 = .slice (some ⟨g, 0, none⟩) xs.length cp ∧ Own 5 .u8 wr w.heap.size g cp xs ∧ M.Outer xs cy (M.valBE (ys.take (j + 1))) (2 * (j + 1)) ∧ Below w.heap.size w wr)
                  (fun _ c _ => (intOf c).toNat)
                case atStart => exact ⟨g, cp, xs, cy, rfl, by rw [HX.out], O3, U4, B3⟩
                case round =>
                  clear HX U4 I3 B3 O3
                  obtain ⟨g4, cp4, x4, c4, rfl, rfl, O4, U4, B4⟩ := hrel
                  have hc0 := U4.2.2.1
                  have hc1 := U4.2.2.2.1
                  have hx4 := U4.2.2.2.2.2
                  by_cases hpos : 0 < c4
                  · have hsz := B4.size
                    go_wp2_with (at_builtin; refine wpList_append_own _ rfl _ _ 22 rfl w.heap.size 5 i0 (.int .u8 0) 1 1 Try.underlying22 hi hz0 hz1 hz2 rfl (by decide) _ _ _ rfl (O4.spell.alloc _) ⟨wr.heap.size, 0, none⟩ 1 1 [.int .u8 (c4 % 58)] rfl rfl ?c1 ?c2 ?c3 ?c4 ?c5 ?_)
                    case c1 =>
                      intro j u hj
                      match j, hj with
                      | 0, hj => simp at hj; subst hj; simp [Addr.add]
                    case c2 => intro u hu; simp at hu; subst hu; rfl
                    case c3 => unfold maxLen; omega
                    case c4 => omega
                    case c5 => simp; omega
                    · intro v' w2 hown' hgrow _
                      obtain ⟨g5, cp5, hv5, O5⟩ := Own.app hown'
                      rw [hv5]
                      go_wp2
                      go_roundw
                      case rel =>
                        refine ⟨g5, cp5, x4 ++ [c4 % 58], _, rfl, by simp, O5, M.outer_round U4 hpos, ?_⟩
                        exact (B4.alloc hsz _).grown hgrow (by simp; omega) (fun kk hkk => by simp [Value.ownBlock] at hkk; have := O4.parts.1; omega)
                      case measure => simp [intOf]; omega
                  · go_wp2
                    go_roundw
                    case rel =>
                      exact ⟨g4, cp4, x4, j + 1, by omega, by go_num, rfl, O4, M.conv_round U4 (by omega), B4⟩
                    case measure => simp [intOf]; omega
          · go_wp2
            go_meet
            obtain rfl : j = len - k := by omega
            exact ⟨_, _, _, rfl, O, by rw [HYL.out]; exact C, hB⟩
      case rest =>
        obtain ⟨g, cp, ds, rfl, O, C, B2⟩ := hcut
        have hdl : ds.length ≤ 2 * (len - k) := by have := C.2.2; rw [HYL.out] at this; exact this
        have hsz := B2.size
        go_wp2_with (refine wpList_make_full _ rfl _ _ 22 rfl w.heap.size 5 i0 (.int .u8 0) 1 Try.underlying22 hi hz0 hz1 .i64 .i64 _ _ (k + ds.length) rfl rfl (by omega) (by omega) (by rw [hz2]; omega) (by unfold maxLen; omega) hsz ?_; intro w3 hown3 hgr3)
        obtain ⟨tb, htb⟩ : ∃ tb, tb = wc.heap.size := ⟨_, rfl⟩
        rw [← htb] at hown3
        rw [← htb]
        have T3 : Own 5 .u8 w3 w.heap.size tb (k + ds.length) (List.replicate (k + ds.length) 0) := Own.full hown3
        have O3 := O.kept hgr3 (by simp)
        have B3 := B2.grown hgr3 hsz (fun _ h => by cases h)
        have hne : tb ≠ g := by have := O.parts; omega
        clear htb hown3 hgr3 O B2
        go_loopw [83] (fun i wr => ∃ n : Nat, n ≤ k ∧ i = .int .i64 n ∧ Own 5 .u8 wr w.heap.size tb (k + ds.length) (List.replicate n 49 ++ List.replicate (k + ds.length - n) 0) ∧ Own 5 .u8 wr w.heap.size g cp ds ∧ Below w.heap.size w wr)
          (fun i _ => k - (intOf i).toNat)
        case atStart => exact ⟨0, Nat.zero_le _, rfl, by simpa using T3, O3, B3⟩
        case round =>
          clear T3 O3 B3
          obtain ⟨n, hn, rfl, T, O, hB⟩ := hrel
          by_cases hlt : n < k
          · have hfz := T.frz n
            have hcc := T.cell (j := n) (by simp; omega)
            go_wp2
            go_roundw
            case rel =>
              refine ⟨n + 1, by omega, by go_num, ?_, O.other hne.symm, T.below hB (Nat.le_refl _) _ _⟩
              have := T.set n 49
              rw [M.ones_round _ _ (by omega)] at this
              exact this
            case measure => simp [intOf]; omega
          · obtain rfl : k = n := by omega
            go_wp2_with fail
            rw [M.filled_start] at T
            obtain ⟨wo, rfl⟩ : ∃ wo : World, wo = wr := ⟨_, rfl⟩
            go_loopw [93] (fun i wr => ∃ n : Nat, n ≤ ds.length ∧ i = .int .i64 n ∧ Own 5 .u8 wr w.heap.size tb (k + ds.length) (M.filled k ds n) ∧ Own 5 .u8 wr w.heap.size g cp ds ∧ Below w.heap.size w wr)
              (fun i _ => ds.length - (intOf i).toNat)
            case atStart => exact ⟨0, Nat.zero_le _, rfl, T, O, hB⟩
            case round =>
              clear T O hB
              obtain ⟨n, hn, rfl, T, O, hB⟩ := hrel
              by_cases hlt : n < ds.length
              · have hfz := T.frz (k + ds.length - 1 - n)
                have hct := T.cell (j := k + ds.length - 1 - n) (by rw [M.filled_length _ _ _ hn]; omega)
                have hcc := O.cell (j := n) (by omega)
                have hdr := M.rng_getD C.1.1 hlt
                have htn : ((k : Int) + (ds.length : Int) - 1 - (n : Int)).toNat = k + ds.length - 1 - n := by omega
                obtain ⟨d, hd⟩ : ∃ d, d = ds.getD n 0 := ⟨_, rfl⟩
                rw [← hd] at hcc hdr
                have Hd : Hid (d = ds.getD n 0) := hd
                clear hd
                go_wp2
                go_roundw
                case rel =>
                  refine ⟨n + 1, by omega, by go_num, ?_, O.other hne.symm, T.below hB (Nat.le_refl _) _ _⟩
                  simp only [alph_at]
                  have := T.set (k + ds.length - 1 - n) (M.alph d)
                  rw [M.filled_round k ds n hlt d Hd.out] at this
                  exact this
                case measure => simp [intOf]; omega
              · obtain rfl : n = ds.length := by omega
                have hconv := run_convert_bytes_arg (P := Try.prog) wr 22 5 Try.underlying22 Try.underlying5 tb 0 (k + ds.length) (k + ds.length) (M.filled k ds ds.length) (M.filled_length _ _ _ (Nat.le_refl _))
                  (fun i hi => by rw [Nat.zero_add]; exact T.cell (by rw [M.filled_length _ _ _ (Nat.le_refl _)]; exact hi)) 9 Try.underlying9
                have HE : Hid (M.EncText zs (M.filled k ds ds.length)) := by
                  refine ⟨ds, C.1, ?_, ?_, ?_⟩
                  · rw [HK.out, ← HY.out, C.2.1, List.take_of_length_le (Nat.le_refl _)]
                  · rw [HK.out, hz]; exact hdl
                  · rw [HK.out]; exact M.filled_end k ds
                go_wp2
                go_ret
                exact ⟨_, rfl, HE.out, hB⟩
end Go.Proofs.Qxb6619687a
