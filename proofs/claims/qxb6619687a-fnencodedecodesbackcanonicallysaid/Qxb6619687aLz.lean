import Derived.Test.Qxb6619687aEnc
import Derived.BigQuiet
import Derived.Deep.QuietTactic
namespace Go.Proofs.Qxb6619687a
open Go.RowKit
set_option linter.unusedVariables false

theorem below_drewN {B : Nat} {a w : World} (h : Below B a w) (n : Nat) : Below B a (w.drewN n) := ⟨h.os, h.tape, h.output, h.size, h.block⟩

/-- the argument as the walk is told of it: nil, or a row that lies there -/
def Arg (w : World) (a : Option Addr) (len cap : Nat) (zs : List Int) : Prop :=
  zs.length = len ∧ len ≤ cap ∧ (a = none → len = 0 ∧ cap = 0) ∧ (∀ x, a = some x → ∀ j, j < len → w.cell? (x.add j) = some (.int .u8 (zs.getD j 0))) ∧ ∀ j, 0 ≤ zs.getD j 0 ∧ zs.getD j 0 ≤ 255

theorem arg_nil (w : World) : Arg w none 0 0 (([] : List Int).take 0) :=
  ⟨rfl, Nat.le_refl _, fun _ => ⟨rfl, rfl⟩, fun x h => (by cases h), fun j => by simp⟩
theorem arg_some {w : World} {x : Addr} {len cap : Nat} {zs : List Int} (hl : len ≤ cap) (hz : zs.length = cap) (hcell : ∀ i, i < zs.length → w.cell? (x.add i) = some (.int .u8 (zs.getD i 0))) (hwz : ∀ n ∈ zs, (Lit.int .u8 n).wf = true) :
    Arg w (some x) len cap (zs.take len) := by
  refine ⟨by simp; omega, hl, fun h => (by cases h), ?_, ?_⟩
  · intro y hy j hj
    obtain rfl : x = y := by simpa using hy
    rw [hcell j (by omega)]
    simp [List.getD, hj]
  · intro j
    by_cases hj : j < len
    · have := range_u8 hwz j
      simp [List.getD, hj]
      exact this
    · simp [List.getD, List.getElem?_take, hj]

/-- behind 'if b != nil { zzc := make(..); copy(zzc, b); b = zzc }': v1 holds zs, in memory that is not the caller's -/
def Copied (w wc : World) (v1 : Value) (zs : List Int) : Prop :=
  Below w.heap.size w wc ∧ ∃ a b off cap, v1 = .slice a zs.length cap ∧ zs.length ≤ cap ∧ (a = none → cap = 0) ∧ (0 < zs.length → a = some ⟨b, off, none⟩) ∧ (0 < zs.length → b < wc.heap.size) ∧
    ∀ j, j < zs.length → wc.cell? ⟨b, off + j, none⟩ = some (.int .u8 (zs.getD j 0))
theorem copied_nil {w : World} {zs : List Int} (h : zs = []) : Copied w w (.slice none 0 0) zs := by
  subst h
  exact ⟨Below.refl _ _, none, 0, 0, 0, rfl, Nat.le_refl _, fun _ => rfl, fun h => absurd h (by simp), fun h => absurd h (by simp), fun j hj => absurd hj (by simp)⟩
theorem copied_made {w w2 : World} {zs : List Int} {g : Nat} (hm : zs.length ≤ maxLen) (hB : Below w.heap.size w w2) (hg : w.heap.size ≤ g) (h : w2.heap[g]? = some (.cells (splice ((List.replicate zs.length (0 : Int)).map (Value.int .u8)) 0 (zs.map (Value.int .u8))).toArray 5 (0, 0))) :
    Copied w w2 (.slice (some ⟨g, 0, none⟩) zs.length zs.length) zs := by
  have e : splice ((List.replicate zs.length (0 : Int)).map (Value.int .u8)) 0 (zs.map (Value.int .u8)) = zs.map (Value.int .u8) := by simp [splice]
  rw [e] at h
  have O : Own 5 .u8 w2 w.heap.size g zs.length zs := Own.ofBlock hg hm h
  exact ⟨hB, _, g, 0, _, rfl, Nat.le_refl _, fun h => (by cases h), fun _ => rfl, fun _ => O.parts.2.1, fun j hj => by rw [Nat.zero_add]; exact O.cell hj⟩
theorem copy_block {w1 : World} {B g n : Nat} (h : w1.ownsRow B 5 1 (.slice (some ⟨g, 0, none⟩) n n) n (madeCells (Value.int .u8 0).cells (n * 1)).toList) :
    w1.heap[g]? = some (.cells ((List.replicate n (0 : Int)).map (Value.int .u8)).toArray 5 (0, 0)) := (Own.full h).block (by simp)
theorem copy_src {w w1 : World} {x : Addr} {zs : List Int} {len : Nat} {dp : Option Addr} {g : Nat} (h : ∀ y, some x = some y → ∀ j, j < len → w.cell? (y.add j) = some (.int .u8 (zs.getD j 0))) (hz : zs.length = len) (hg : w.grownBy w1 none) (hd : dp = some ⟨g, 0, none⟩) :
    0 < (zs.map (Value.int .u8)).length → dp = some ⟨g, 0, none⟩ ∧ ∃ ad, some x = some ad ∧ ∀ j v, (zs.map (Value.int .u8))[j]? = some v → w1.cell? (ad.add j) = some v := by
  intro _
  refine ⟨hd, x, rfl, fun j v hv => ?_⟩
  have hj : j < zs.length := by
    rcases Nat.lt_or_ge j zs.length with h | h
    · exact h
    · rw [List.getElem?_eq_none (by simpa using h)] at hv; cases hv
  have e : v = .int .u8 (zs.getD j 0) := by
    simp [List.getElem?_eq_getElem hj] at hv
    rw [← hv]; simp [hj]
  rw [e]
  exact hg.cell (h x rfl j (by omega)) (by simp)

theorem zeros_range {k : Nat} {zs : List Int} (h : ∀ j, 0 ≤ zs.getD j 0 ∧ zs.getD j 0 ≤ 255) (j : Nat) : 0 ≤ (List.replicate k (0 : Int) ++ zs).getD j 0 ∧ (List.replicate k (0 : Int) ++ zs).getD j 0 ≤ 255 := by
  rcases Nat.lt_or_ge j k with hj | hj
  · have : (List.replicate k (0 : Int) ++ zs).getD j 0 = 0 := by simp [List.getD, List.getElem?_append_left, hj]
    omega
  · have : (List.replicate k (0 : Int) ++ zs).getD j 0 = zs.getD (j - k) 0 := by simp [List.getD, List.getElem?_append_right, hj]
    rw [this]; exact h _

theorem strOfNums_at' {xs : List Int} {s : ByteArray} {i : Nat} (hs : strOfNums xs = s) (h : i < s.size) : s[i]'h = UInt8.ofNat (xs.getD i 0).toNat := by
  subst hs
  have hi : i < xs.length := by rw [strOfNums_size] at h; exact h
  show (strOfNums xs).data[i] = _
  simp [strOfNums, hi]
theorem strOfNums_at {xs : List Int} {s : ByteArray} {i : Nat} (hs : strOfNums xs = s) (h : i < s.size) : ((s[i]'h).toNat : Int) = (UInt8.ofNat (xs.getD i 0).toNat).toNat := by
  rw [strOfNums_at' hs h]

set_option maxHeartbeats 800000 in
theorem lz_walk (k : Nat) (a : Option Addr) (len cap : Nat) (zs : List Int) (w : World) (hk : k ≤ 4096) (hl : len ≤ 4096) (hA : Arg w a len cap zs) :
    Calls Try.prog 5 #[.int .i64 k, .slice a len cap] w fun e w' => e = .returned (.bool true) ∧ Below w.heap.size w w' := by
  obtain ⟨i0, hi, hz0, hz1, hz2⟩ := info_parts Try.info5
  obtain ⟨hz, hlc, hnil, hcell, hr⟩ := hA
  have HCELL : Hid (∀ x, a = some x → ∀ j, j < len → w.cell? (x.add j) = some (.int .u8 (zs.getD j 0))) := hcell
  have HR : Hid (∀ j, 0 ≤ zs.getD j 0 ∧ zs.getD j 0 ≤ 255) := hr
  clear hcell hr
  have hneq := fun wx => run_neq_slice_nil_any (P := Try.prog) wx 22 5 a len cap 0 0 Try.underlying22
  go_enter Try.func5, Try.ntmps5
  go_upto_if 26 with (go_at_call 11; go_in)
  go_cut [1, 5] from 12 to 33 (fun v1 v5 wc => Copied w wc v1 zs)
  case first =>
    cases a with
    | none =>
      obtain ⟨rfl, rfl⟩ := hnil rfl
      go_wp2
      go_meet
      exact copied_nil (List.eq_nil_of_length_eq_zero hz)
    | some x =>
      clear hnil
      go_wp2_with (first
        | (refine wpList_make_full _ rfl _ _ 22 rfl w.heap.size 5 i0 (.int .u8 0) 1 Try.underlying22 hi hz0 hz1 .i64 .i64 _ _ len rfl rfl rfl rfl (by rw [hz2]; omega) (by unfold maxLen; omega) (Nat.le_refl _) ?_; intro w1 hown1 hgr1)
        | (refine wpList_copy_splice rfl (.tmp 30) (.tmp 31) 22 22 rfl 5 Try.underlying22 (by rw [hi]; simp [hz1]) _ _ _ _ _ _ rfl rfl w.heap.size 0 ((List.replicate len (0 : Int)).map (Value.int .u8)) 5 (copy_block hown1) (zs.map (Value.int .u8)) (by simp [hz]) (copy_src HCELL.out hz hgr1 rfl) (by simp [hz]) (ints_oneCell _ _) w.heap.size w ((Below.refl _ _).grown hgr1 (Nat.le_refl _) (fun _ h => by cases h)) (Nat.le_refl _) ?_; intro w2 HG2 hB2))
      go_meet
      subst hz
      exact copied_made (by unfold maxLen; omega) hB2 (Nat.le_refl _) HG2.out
  case rest =>
    obtain ⟨B1, a1, b1, off1, cap1, rfl, hlc1, han1, ha1, hb1, hc1⟩ := hcut
    clear hneq hnil HCELL hlc
    have HC1 : Hid (∀ j, j < zs.length → wc.cell? ⟨b1, off1 + j, none⟩ = some (.int .u8 (zs.getD j 0))) := hc1
    have HA1 : Hid (0 < zs.length → a1 = some ⟨b1, off1, none⟩) := ha1
    have HN1 : Hid (a1 = none → cap1 = 0) := han1
    have HB1 : Hid (0 < zs.length → b1 < wc.heap.size) := hb1
    clear hc1 ha1 han1 hb1
    subst hz
    go_wp2_with (refine wpList_make_full _ rfl _ _ 22 rfl wc.heap.size 5 i0 (.int .u8 0) 1 Try.underlying22 hi hz0 hz1 .i64 .i64 _ _ (k + zs.length) rfl rfl (by omega) (by omega) (by rw [hz2]; omega) (by unfold maxLen; omega) (Nat.le_refl _) ?_; intro w3 hown3 hgr3)
    obtain ⟨tb, htb⟩ : ∃ tb, tb = wc.heap.size := ⟨_, rfl⟩
    rw [← htb] at hown3
    have T3 : Own 5 .u8 w3 wc.heap.size tb (k + zs.length) (List.replicate (k + zs.length) 0) := by rw [← htb]; exact Own.full hown3
    rw [← htb]
    have B3 : Below wc.heap.size wc w3 := (Below.refl _ _).grown hgr3 (Nat.le_refl _) (fun _ h => by cases h)
    rw [M.laid_start] at T3
    clear htb hown3 hgr3
    go_loopw [7] (fun i wr => ∃ n : Nat, n ≤ zs.length ∧ i = .int .i64 n ∧ Own 5 .u8 wr wc.heap.size tb (k + zs.length) (M.laid k zs n) ∧ Below wc.heap.size wc wr)
      (fun i _ => zs.length - (intOf i).toNat)
    case atStart => exact ⟨0, Nat.zero_le _, rfl, T3, B3⟩
    case round =>
      clear T3 B3
      obtain ⟨n, hn, rfl, T, hB⟩ := hrel
      by_cases hlt : n < zs.length
      · obtain rfl := HA1.out (by omega)
        have hcx := (hB.cell (p := ⟨b1, off1 + n, none⟩) (HB1.out (by omega))).trans (HC1.out n hlt)
        have hfz := T.frz (k + n)
        have hct := T.cell (j := k + n) (by rw [M.laid_length _ _ _ hn]; omega)
        have htn : ((k : Int) + (n : Int)).toNat = k + n := by omega
        obtain ⟨d, hd⟩ : ∃ d, d = zs.getD n 0 := ⟨_, rfl⟩
        rw [← hd] at hcx
        have Hd : Hid (d = zs.getD n 0) := hd
        clear hd
        go_wp2
        go_roundw
        case rel =>
          refine ⟨n + 1, by omega, by go_num, ?_, T.below hB (Nat.le_refl _) _ _⟩
          have := T.set (k + n) d
          rw [M.laid_round k zs n hlt d Hd.out] at this
          exact this
        case measure => simp [intOf]; omega
      · obtain rfl : n = zs.length := by omega
        rw [M.laid_end] at T
        go_wp2_with fail
        have hzl : (List.replicate k (0 : Int) ++ zs).length = k + zs.length := by simp
        refine (enc_any (some ⟨tb, 0, none⟩) tb 0 (k + zs.length) (k + zs.length) (List.replicate k 0 ++ zs) wr (fun _ => T.parts.2.1) (Nat.le_refl _) (by omega) hzl (fun _ => rfl) (fun h => by cases h)
          (fun j hj => by rw [Nat.zero_add]; exact T.cell (by omega)) (zeros_range HR.out)).mono ?_
        rintro e w4 ⟨t1, rfl, E1, B4⟩
        generalize hs1 : strOfNums t1 = s1
        have HS1 : Hid (strOfNums t1 = s1) := hs1
        clear hs1
        go_wp2_with fail
        have hB4 : Below wc.heap.size wc w4 := hB.trans (B4.mono hB.size)
        refine (enc_any a1 b1 off1 zs.length cap1 zs w4 (fun h => Nat.lt_of_lt_of_le (HB1.out h) hB4.size) hlc1 (by omega) rfl HA1.out HN1.out
          (fun j hj => (hB4.cell (p := ⟨b1, off1 + j, none⟩) (HB1.out (by omega))).trans (HC1.out j hj)) HR.out).mono ?_
        rintro e w5 ⟨t2, rfl, E2, B5⟩
        have hfin : Below w.heap.size w w5 := B1.trans ((hB4.trans (B5.mono hB4.size)).mono B1.size)
        generalize hs2 : strOfNums t2 = s2
        have ht := M.encText_zeros E1 E2
        have hsz : s1.size = k + s2.size := by rw [← HS1.out, ← hs2, strOfNums_size, strOfNums_size, ht]; simp
        have hs2l : s2.size ≤ 12288 := by rw [← hs2, strOfNums_size]; have := M.encText_length E2; omega
        have HP : Hid (∀ i (h : i < s1.size), i < k → ((s1[i]'h).toNat : Int) = 49) := by
          intro i h hik
          have := strOfNums_at (xs := t1) (i := i) HS1.out h
          rw [this, ht]
          simp [List.getElem?_append_left, hik]
        have HQ : Hid (∀ j (h : j < s2.size) (h' : k + j < s1.size), s1[k + j]'h' = s2[j]'h) := by
          intro j h h'
          have e1 := strOfNums_at' (xs := t1) (i := k + j) HS1.out h'
          have e2 := strOfNums_at' (xs := t2) (i := j) hs2 h
          rw [e1, e2, ht]
          simp [List.getElem?_append_right]
        clear T hB B4 hB4 B5 E1 E2 B1 ht HS1 hs2
        have hne : ((s1.size : Int) != (k : Int) + (s2.size : Int)) = false := by simp; omega
        have hsz1 : s1.size ≤ k + s2.size := by omega
        have hsz2 : k + s2.size ≤ s1.size := by omega
        clear hsz
        go_wp2_with fail
        go_loop [10] (fun i => ∃ n : Nat, n ≤ k ∧ i = .int .i64 n) (fun i => k - (intOf i).toNat)
        case atStart => exact ⟨0, Nat.zero_le _, rfl⟩
        case round =>
          obtain ⟨n, hn, rfl⟩ := hrel
          by_cases hlt : n < k
          · have h49 := HP.out n (by omega) hlt
            go_wp2
            go_round
            case rel => exact ⟨n + 1, by omega, by go_num⟩
            case measure => simp [intOf]; omega
          · go_wp2_with fail
            go_loopw [11] (fun i wr => ∃ n : Nat, n ≤ s2.size ∧ i = .int .i64 n ∧ Below w.heap.size w wr) (fun i _ => s2.size - (intOf i).toNat)
            case atStart => exact ⟨0, Nat.zero_le _, rfl, hfin⟩
            case round =>
              obtain ⟨m, hm, rfl, hfin2⟩ := hrel
              by_cases hlt2 : m < s2.size
              · have hq := HQ.out m hlt2 (by omega)
                have hwr : IntKind.i64.wrap ((k : Int) + (m : Int)) = (k : Int) + (m : Int) := by rw [IntKind.wrap_i64]; omega
                have htn : ((k : Int) + (m : Int)).toNat = k + m := by omega
                have hi1 : (k : Int) + (m : Int) < (s1.size : Int) := by omega
                have hi2 : (m : Int) < (s2.size : Int) := by omega
                go_wp2_with fail
                go_quiet (fail)
                go_wp2
                go_roundw
                case rel => exact ⟨m + 1, by omega, by go_num, below_drewN hfin2 _⟩
                case measure => simp [intOf]; omega
              · go_wp2
                go_ret
                exact ⟨rfl, hfin2⟩

set_option maxHeartbeats 400000 in
theorem lz_out (k : Int) (a : Option Addr) (len cap : Nat) (w : World) (hl : len ≤ maxLen) (h : 4096 < len ∨ k < 0 ∨ 4096 < k) :
    Calls Try.prog 5 #[.int .i64 k, .slice a len cap] w fun e w' => e = .returned (.bool true) ∧ Below w.heap.size w w' := by
  unfold maxLen at hl
  by_cases h1 : 1048576 < len
  · go_enter Try.func5, Try.ntmps5
    go_wp2
    go_ret
    exact ⟨rfl, Below.refl _ _⟩
  · by_cases h2 : 4096 < len
    · go_enter Try.func5, Try.ntmps5
      go_wp2
      go_ret
      exact ⟨rfl, Below.refl _ _⟩
    · by_cases h3 : k < 0
      · go_enter Try.func5, Try.ntmps5
        go_wp2
        go_ret
        exact ⟨rfl, Below.refl _ _⟩
      · have h4 : 4096 < k := by omega
        go_enter Try.func5, Try.ntmps5
        go_wp2
        go_ret
        exact ⟨rfl, Below.refl _ _⟩
end Go.Proofs.Qxb6619687a
