import Derived.Test.Qxb6619687aMath
namespace Go.Proofs.Qxb6619687a.M

/-- powers of 58 -/
def pw : Nat → Int
  | 0 => 1
  | n + 1 => 58 * pw n
theorem pw_pos : ∀ n, 0 < pw n
  | 0 => by simp [pw]
  | n + 1 => by have := pw_pos n; simp only [pw]; omega

theorem rng_take {B : Int} {xs : List Int} (h : Rng B xs) (n : Nat) : Rng B (xs.take n) := fun d hd => h d (List.mem_of_mem_take hd)
theorem rng_drop {B : Int} {xs : List Int} (h : Rng B xs) (n : Nat) : Rng B (xs.drop n) := fun d hd => h d (List.mem_of_mem_drop hd)
theorem rng_rev {B : Int} {xs : List Int} (h : Rng B xs) : Rng B xs.reverse := fun d hd => h d (List.mem_reverse.1 hd)

theorem valT_lt : ∀ (xs : List Int), Rng 256 xs → valT 256 xs 0 < pw (2 * xs.length)
  | [], _ => by simp [valT, pw]
  | d :: ds, h => by
    have h1 := (rng_cons h).1
    have h2 := valT_lt ds (rng_cons h).2
    have e : pw (2 * (d :: ds).length) = 58 * (58 * pw (2 * ds.length)) := by
      rw [show 2 * (d :: ds).length = 2 * ds.length + 1 + 1 by simp; omega]; rfl
    have h3 := pw_pos (2 * ds.length)
    rw [e]
    simp only [valT]
    omega
theorem valBE_lt (xs : List Int) (h : Rng 256 xs) : valBE xs < pw (2 * xs.length) := by
  have := valT_lt xs.reverse (rng_rev h)
  rw [List.length_reverse] at this
  exact this
theorem valBE_nonneg {xs : List Int} (h : Rng 256 xs) : 0 ≤ valBE xs := valT_nonneg (by omega) (rng_rev h) (Int.le_refl 0)

theorem valT_pos {xs : List Int} (h : Rng 256 xs) {z : Int} (hz : z ∈ xs) (h0 : z ≠ 0) : 0 < valT 256 xs 0 := by
  induction xs with
  | nil => cases hz
  | cons d ds ih =>
    have h1 := (rng_cons h).1
    have h2 := valT_nonneg (by omega) (rng_cons h).2 (Int.le_refl 0)
    simp only [valT]
    rcases List.mem_cons.1 hz with rfl | hz
    · omega
    · have := ih (rng_cons h).2 hz; omega
theorem valBE_pos {xs : List Int} (h : Rng 256 xs) {i : Nat} (hi : i < xs.length) (h0 : xs.getD i 0 ≠ 0) : 0 < valBE xs := by
  have e : xs.getD i 0 = xs[i] := by simp [hi]
  exact valT_pos (rng_rev h) (z := xs[i]) (List.mem_reverse.2 (List.getElem_mem hi)) (by rw [← e]; exact h0)

theorem valT_zero : ∀ (xs : List Int), (∀ d, d ∈ xs → d = 0) → valT 256 xs 0 = 0
  | [], _ => rfl
  | d :: ds, h => by
    have h1 := h d (by simp)
    have h2 := valT_zero ds (fun x hx => h x (by simp [hx]))
    simp only [valT, h1, h2]; omega
theorem valBE_zero (xs : List Int) (h : ∀ i, i < xs.length → xs.getD i 0 = 0) : valBE xs = 0 := by
  refine valT_zero _ fun d hd => ?_
  obtain ⟨i, hi, e⟩ := List.getElem_of_mem (List.mem_reverse.1 hd)
  have := h i hi
  simp [hi] at this
  rw [← e]; exact this
theorem getD_take {xs : List Int} {n i : Nat} (h : i < n) : (xs.take n).getD i 0 = xs.getD i 0 := by simp [List.getD, h]
theorem valBE_take_zero (xs : List Int) (n : Nat) (h : ∀ i, i < n → xs.getD i 0 = 0) : valBE (xs.take n) = 0 := by
  refine valBE_zero _ fun i hi => ?_
  have hin : i < n := by simp at hi; omega
  rw [getD_take hin]; exact h i hin

/-! ### one long division -/
def Dv (ns xs : List Int) (st i : Nat) (rem : Int) : Prop :=
  xs.length = ns.length ∧ Rng 256 xs ∧ 0 ≤ rem ∧ rem < 58 ∧ valBE (ns.take i) = 58 * valBE (xs.take i) + rem ∧ xs.drop i = ns.drop i ∧ (∀ j, j < st → xs.getD j 0 = 0) ∧ st ≤ i

theorem dv_start {ns : List Int} {st : Nat} (h : Rng 256 ns) (hz : ∀ j, j < st → ns.getD j 0 = 0) : Dv ns ns st st 0 :=
  ⟨rfl, h, by omega, by omega, by rw [valBE_take_zero ns st hz]; omega, rfl, hz, Nat.le_refl _⟩

theorem getD_of_drop {xs ns : List Int} {i : Nat} (h : xs.drop i = ns.drop i) : xs.getD i 0 = ns.getD i 0 := by
  have h1 : (xs.drop i).getD 0 0 = xs.getD i 0 := by simp [List.getD]
  have h2 : (ns.drop i).getD 0 0 = ns.getD i 0 := by simp [List.getD]
  rw [← h1, ← h2, h]

theorem dv_round {ns xs : List Int} {st i : Nat} {rem d : Int} (h : Dv ns xs st i rem) (hi : i < ns.length) (hd : d = xs.getD i 0) :
    Dv ns (xs.set i ((rem * 256 + d) / 58)) st (i + 1) ((rem * 256 + d) % 58) := by
  obtain ⟨hl, hR, h0, h1, hv, hdr, hz, hst⟩ := h
  have hix : i < xs.length := by omega
  have hg := rng_getD hR hix
  rw [← hd] at hg
  refine ⟨by simpa using hl, rng_set hR i (by omega) (by omega), by omega, by omega, ?_, ?_, ?_, by omega⟩
  · rw [take_set_snoc xs i _ hix, valBE_snoc, valBE_take_succ ns i hi, hv, ← getD_of_drop hdr, ← hd]
    omega
  · rw [drop_set_succ, ← List.drop_drop, ← List.drop_drop, hdr]
  · intro j hj
    have e : (xs.set i ((rem * 256 + d) / 58)).getD j 0 = xs.getD j 0 := by
      simp only [List.getD, List.getElem?_set]
      rw [if_neg (by omega)]
    rw [e]; exact hz j hj

theorem dv_end {ns xs : List Int} {st : Nat} {rem : Int} (h : Dv ns xs st ns.length rem) :
    xs.length = ns.length ∧ Rng 256 xs ∧ 0 ≤ rem ∧ rem < 58 ∧ valBE ns = 58 * valBE xs + rem ∧ ∀ j, j < st → xs.getD j 0 = 0 := by
  obtain ⟨hl, hR, h0, h1, hv, _, hz, _⟩ := h
  rw [List.take_of_length_le (Nat.le_refl _), List.take_of_length_le (by omega)] at hv
  exact ⟨hl, hR, h0, h1, hv, hz⟩

/-! ### the divisions -/
def Ld (N : Int) (m : Nat) (ns rs : List Int) (st : Nat) : Prop :=
  ns.length = m ∧ Rng 256 ns ∧ valT 58 rs (valBE ns) = N ∧ Rng 58 rs ∧ rs.length ≤ 2 * m ∧ valBE ns < pw (2 * m - rs.length) ∧ (valBE ns = 0 → Top rs) ∧ st ≤ m ∧ (∀ j, j < st → ns.getD j 0 = 0) ∧ (st < m → ns.getD st 0 ≠ 0)

theorem ld_start {ys : List Int} (h : Rng 256 ys) (h0 : 0 < ys.length → ys.getD 0 0 ≠ 0) : Ld (valBE ys) ys.length ys [] 0 :=
  ⟨rfl, h, rfl, rng_nil _, by simp, valBE_lt ys h, fun _ => top_nil, Nat.zero_le _, fun j hj => absurd hj (by omega), h0⟩

theorem ld_more {N : Int} {m : Nat} {ns rs : List Int} {st : Nat} (h : Ld N m ns rs st) (hst : st < m) : 0 < valBE ns ∧ rs.length < 2 * m := by
  obtain ⟨hl, hR, hv, hr, hlen, hlt, ht, _, hz, hn⟩ := h
  have hp := valBE_pos hR (i := st) (by omega) (hn hst)
  refine ⟨hp, ?_⟩
  rcases Nat.lt_or_ge rs.length (2 * m) with h | h
  · exact h
  · rw [show 2 * m - rs.length = 0 by omega] at hlt
    simp only [pw] at hlt
    omega

/-- behind the division, ahead of the loop that seeks the next place: all but the places -/
theorem ld_round {N : Int} {m : Nat} {ns rs xs : List Int} {st st' : Nat} {rem : Int} (h : Ld N m ns rs st) (hst : st < m) (hd : Dv ns xs st ns.length rem)
    (h1 : st' ≤ m) (h2 : ∀ j, j < st' → xs.getD j 0 = 0) (h3 : st' < m → xs.getD st' 0 ≠ 0) : Ld N m xs (rs ++ [rem]) st' := by
  obtain ⟨hp, hcnt⟩ := ld_more h hst
  obtain ⟨hl, hR, hv, hr, hlen, hlt, ht, _, hz, hn⟩ := h
  obtain ⟨d1, d2, d3, d4, d5, d6⟩ := dv_end hd
  have hnn := valBE_nonneg d2
  refine ⟨by omega, d2, ?_, rng_snoc hr d3 d4, by simp; omega, ?_, ?_, h1, h2, h3⟩
  · rw [valT_snoc, ← hv, d5]; congr 1; omega
  · have e : 2 * m - rs.length = (2 * m - (rs ++ [rem]).length) + 1 := by simp; omega
    rw [e] at hlt
    simp only [pw] at hlt
    omega
  · intro h0
    exact top_snoc (by omega)

theorem ld_end {N : Int} {m : Nat} {ns rs : List Int} (h : Ld N m ns rs m) : Canon 58 rs ∧ valT 58 rs 0 = N ∧ rs.length ≤ 2 * m := by
  obtain ⟨hl, hR, hv, hr, hlen, hlt, ht, _, hz, hn⟩ := h
  have e : valBE ns = 0 := valBE_zero ns (fun i hi => hz i (by omega))
  rw [e] at hv
  exact ⟨⟨hr, ht e⟩, hv, hlen⟩

/-! ### rows that are filled from the head on -/
def headed (pre L : List Int) (i n : Nat) : List Int := pre ++ (L.take i ++ List.replicate (n - i) 0)
theorem headed_length (pre L : List Int) (i n : Nat) (h : i ≤ n) (hL : i ≤ L.length) : (headed pre L i n).length = pre.length + n := by simp [headed]; omega
theorem headed_round (pre L : List Int) (i n : Nat) (h : i < n) (x : Int) (hL : i < L.length) (hx : x = L.getD i 0) : (headed pre L i n).set (pre.length + i) x = headed pre L (i + 1) n := by
  have e2 : L.take (i + 1) = L.take i ++ [x] := by
    rw [List.take_succ_eq_append_getElem hL, hx]; simp [hL]
  unfold headed
  rw [List.set_append_right _ _ (by simp), Nat.add_sub_cancel_left]
  rw [List.set_append_right _ _ (by simp; omega), e2, show n - i = (n - (i + 1)) + 1 by omega, List.replicate_succ]
  have : i - (L.take i).length = 0 := by simp; omega
  rw [this]
  simp
theorem rev_map_getD (rs : List Int) (j : Nat) (hj : j < rs.length) : ((rs.map alph).reverse).getD j 0 = alph (rs.getD (rs.length - 1 - j) 0) := by
  have h2 : rs.length - 1 - j < rs.length := by omega
  simp only [List.getD, List.getElem?_eq_getElem h2, Option.getD_some]
  simp [hj]

/-- rems: the remainders so far, then zeros -/
def rems (rs : List Int) (n : Nat) : List Int := rs ++ List.replicate (n - rs.length) 0
theorem rems_length (rs : List Int) (n : Nat) (h : rs.length ≤ n) : (rems rs n).length = n := by simp [rems]; omega
theorem rems_round (rs : List Int) (n : Nat) (h : rs.length < n) (x : Int) : (rems rs n).set rs.length x = rems (rs ++ [x]) n := by
  unfold rems
  rw [List.set_append_right _ _ (Nat.le_refl _), Nat.sub_self, show n - rs.length = (n - (rs ++ [x]).length) + 1 by simp; omega, List.replicate_succ]
  simp
theorem rems_getD (rs : List Int) (n j : Nat) (h : j < rs.length) : (rems rs n).getD j 0 = rs.getD j 0 := by
  simp [rems, List.getD, List.getElem?_append_left, h]

theorem ys_start {zs ys : List Int} (h : ys = zs.drop (lz zs)) : 0 < ys.length → ys.getD 0 0 ≠ 0 := by
  intro hp
  have hl : lz zs < zs.length := by rw [h, List.length_drop] at hp; omega
  have := lz_head zs hl
  rw [h]
  simpa [List.getD] using this
end Go.Proofs.Qxb6619687a.M
