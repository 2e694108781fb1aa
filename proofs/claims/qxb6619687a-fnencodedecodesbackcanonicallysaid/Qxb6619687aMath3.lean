import Derived.Test.Qxb6619687aMath2
namespace Go.Proofs.Qxb6619687a.M

def Inner2 (ds xs : List Int) (i : Nat) (c N : Int) : Prop :=
  xs.length = ds.length ∧ Rng 256 xs ∧ 0 ≤ c ∧ c ≤ 57 ∧ valT 256 (xs.take i) (c + 58 * valT 256 (xs.drop i) 0) = N ∧ xs.drop i = ds.drop i ∧ (0 < i → i = ds.length → c = 0 → Top xs)

theorem inner2_start (ds : List Int) (v : Int) (h : Rng 256 ds) (h0 : 0 ≤ v) (h1 : v ≤ 57) : Inner2 ds ds 0 v (v + 58 * valT 256 ds 0) :=
  ⟨rfl, h, h0, h1, rfl, rfl, fun h => absurd h (by omega)⟩

theorem inner2_step (pre rest : List Int) (d c : Int) :
    valT 256 (pre ++ [(c + d * 58) % 256]) ((c + d * 58) / 256 + 58 * valT 256 rest 0) = valT 256 pre (c + 58 * valT 256 (d :: rest) 0) := by
  rw [valT_snoc]
  simp only [valT]
  congr 1
  omega

theorem inner2_round {ds xs : List Int} {i : Nat} {c N d : Int} (h : Inner2 ds xs i c N) (htop : Top ds) (hi : i < ds.length) (hd : d = xs.getD i 0) :
    Inner2 ds (xs.set i ((c + d * 58) % 256)) (i + 1) ((c + d * 58) / 256) N := by
  obtain ⟨hl, hR, h0, h1, hv, hdr, _⟩ := h
  have hix : i < xs.length := by omega
  have hg := rng_getD hR hix
  rw [← hd] at hg
  refine ⟨by simpa using hl, rng_set hR i (by omega) (by omega), by omega, by omega, ?_, ?_, ?_⟩
  · rw [take_set_snoc xs i _ hix, drop_set_succ, inner2_step, hd, ← drop_cons xs i hix]
    exact hv
  · rw [drop_set_succ, ← List.drop_drop, ← List.drop_drop, hdr]
  · intro _ hn hc
    have e := drop_cons xs i hix
    rw [← hd, hdr, List.drop_eq_nil_of_le (as := xs) (i := i + 1) (by omega)] at e
    have e2 : ds = ds.take i ++ [d] := by rw [← e, List.take_append_drop]
    have hd0 := htop _ _ e2
    have e3 := take_set_snoc xs i ((c + d * 58) % 256) hix
    rw [List.take_of_length_le (by simp; omega)] at e3
    rw [e3]
    exact top_snoc (by omega)

theorem inner2_end {ds xs : List Int} {c N : Int} (h : Inner2 ds xs ds.length c N) : valT 256 xs c = N ∧ Rng 256 xs ∧ 0 ≤ c ∧ c ≤ 57 ∧ (c = 0 → Top xs) ∧ xs.length = ds.length := by
  obtain ⟨hl, hR, h0, h1, hv, _, hc⟩ := h
  refine ⟨?_, hR, h0, h1, ?_, hl⟩
  · rw [List.take_of_length_le (by omega), List.drop_eq_nil_of_le (by omega)] at hv
    simpa [valT] using hv
  · intro hc0
    rcases Nat.eq_zero_or_pos ds.length with h | h
    · have : xs = [] := List.eq_nil_of_length_eq_zero (by omega)
      rw [this]; exact top_nil
    · exact hc h rfl hc0

def more2 (c : Int) : Nat := if c ≤ 0 then 0 else 1
theorem more2_le (c : Int) : more2 c ≤ 1 := by unfold more2; split <;> omega

def Outer2 (xs : List Int) (c N : Int) (L : Nat) : Prop :=
  valT 256 xs c = N ∧ Rng 256 xs ∧ 0 ≤ c ∧ c ≤ 57 ∧ (c = 0 → Top xs) ∧ xs.length + more2 c ≤ L
theorem outer2_room {xs : List Int} {c N : Int} {L : Nat} (h : Outer2 xs c N L) (hc : 0 < c) : xs.length < L := by
  have := h.2.2.2.2.2
  unfold more2 at this
  rw [if_neg (by omega)] at this
  omega
theorem outer2_round {xs : List Int} {c N : Int} {L : Nat} (h : Outer2 xs c N L) (hc : 0 < c) : Outer2 (xs ++ [c % 256]) (c / 256) N L := by
  have hr := outer2_room h hc
  obtain ⟨hv, hR, h0, h1, _, hL⟩ := h
  refine ⟨?_, rng_snoc hR (by omega) (by omega), by omega, by omega, fun _ => top_snoc (by omega), ?_⟩
  · rw [valT_snoc, ← hv]; congr 1; omega
  · unfold more2
    rw [if_pos (by omega)]
    simp; omega
theorem outer2_end {xs : List Int} {c N : Int} {L : Nat} (h : Outer2 xs c N L) (hc : c ≤ 0) : Canon 256 xs ∧ valT 256 xs 0 = N ∧ xs.length ≤ L := by
  obtain ⟨hv, hR, h0, h1, ht, hL⟩ := h
  obtain rfl : c = 0 := by omega
  exact ⟨⟨hR, ht rfl⟩, hv, by omega⟩

/-- behind q characters that are digits: the bytes xs, least first -/
def Dec (ds xs : List Int) (q : Nat) : Prop := Canon 256 xs ∧ valT 256 xs 0 = valT 58 (ds.drop (ds.length - q)) 0 ∧ xs.length ≤ q
theorem dec_start (ds : List Int) : Dec ds [] 0 := ⟨canon_nil _, by simp [valT], by simp⟩
theorem dec_drop (ds : List Int) (q : Nat) (hq : q < ds.length) : valT 58 (ds.drop (ds.length - (q + 1))) 0 = ds.getD (ds.length - 1 - q) 0 + 58 * valT 58 (ds.drop (ds.length - q)) 0 := by
  rw [show ds.length - (q + 1) = ds.length - 1 - q by omega, drop_cons ds _ (by omega), show ds.length - 1 - q + 1 = ds.length - q by omega]
  rfl
theorem dec_outer {ds x0 xs : List Int} {q : Nat} {c : Int} (h : Dec ds x0 q) (hq : q < ds.length) (hi : Inner2 x0 xs x0.length c (ds.getD (ds.length - 1 - q) 0 + 58 * valT 256 x0 0)) :
    Outer2 xs c (valT 58 (ds.drop (ds.length - (q + 1))) 0) (q + 1) := by
  obtain ⟨hC, hv, hl⟩ := h
  obtain ⟨a1, a2, a3, a4, a5, a6⟩ := inner2_end hi
  refine ⟨by rw [a1, dec_drop ds q hq, hv], a2, a3, a4, a5, ?_⟩
  have := more2_le c
  omega
theorem dec_round {ds xs : List Int} {q : Nat} {c : Int} (h : Outer2 xs c (valT 58 (ds.drop (ds.length - (q + 1))) 0) (q + 1)) (hc : c ≤ 0) : Dec ds xs (q + 1) := outer2_end h hc

theorem canon_rev {ys : List Int} (h : Rng 256 ys) (h0 : 0 < ys.length → ys.getD 0 0 ≠ 0) : Canon 256 ys.reverse := by
  refine ⟨rng_rev h, ?_⟩
  intro zs d e
  cases ys with
  | nil => simp at e
  | cons y ys =>
    rw [List.reverse_cons] at e
    have := List.append_inj_right' e rfl
    simp at this
    have h1 := h0 (by simp)
    simp at h1
    rw [← this]; exact h1

/-- at the end the bytes are b's own behind its leading zeros -/
theorem dec_end {zs ds xs : List Int} (hR : Rng 256 (zs.drop (lz zs))) (hv : valT 58 ds 0 = valBE (zs.drop (lz zs))) (h : Dec ds xs ds.length) : xs = (zs.drop (lz zs)).reverse := by
  obtain ⟨hC, hx, _⟩ := h
  rw [Nat.sub_self, List.drop_zero, hv] at hx
  exact canon_unique (by omega) hC (canon_rev hR (ys_start rfl)) hx

theorem rems_set (xs : List Int) (n i : Nat) (h : i < xs.length) (x : Int) : (rems xs n).set i x = rems (xs.set i x) n := by
  unfold rems
  rw [List.set_append_left _ _ h, List.length_set]

/-! ### the alphabet -/
theorem alph_inj : ∀ i d : Fin 58, i.val < d.val → alphabet.getD i.val 0 ≠ alphabet.getD d.val 0 := by decide +kernel
theorem alph_ne {i : Nat} {d : Int} (h0 : 0 ≤ d) (h1 : d < 58) (hi : (i : Int) < d) : alphabet.getD i 0 ≠ alph d :=
  alph_inj ⟨i, by omega⟩ ⟨d.toNat, by omega⟩ (by simp only; omega)
theorem alph_49 {d : Int} (h0 : 0 ≤ d) (h1 : d < 58) (hd : d ≠ 0) : alph d ≠ 49 := by
  have := alph_ne (i := 0) h0 h1 (by omega)
  exact fun e => this (by rw [e]; rfl)
theorem alph_rng : ∀ d : Fin 58, 0 ≤ alphabet.getD d.val 0 ∧ alphabet.getD d.val 0 ≤ 255 := by decide +kernel
theorem alph_range {d : Int} (h0 : 0 ≤ d) (h1 : d < 58) : 0 ≤ alph d ∧ alph d ≤ 255 := alph_rng ⟨d.toNat, by omega⟩

/-- the text's characters -/
theorem text_one (k : Nat) (ds : List Int) (i : Nat) (h : i < k) : (List.replicate k (49 : Int) ++ (ds.map alph).reverse).getD i 0 = 49 := by
  simp [List.getD, List.getElem?_append_left, h]
theorem text_digit (k : Nat) (ds : List Int) (q : Nat) (h : q < ds.length) : (List.replicate k (49 : Int) ++ (ds.map alph).reverse).getD (k + q) 0 = alph (ds.getD (ds.length - 1 - q) 0) := by
  rw [← rev_map_getD ds q h]
  simp [List.getD, List.getElem?_append_right]
theorem top_getD {ds : List Int} (h : Top ds) (hp : 0 < ds.length) : ds.getD (ds.length - 1) 0 ≠ 0 := by
  have e : ds = ds.take (ds.length - 1) ++ [ds.getD (ds.length - 1) 0] := by
    have h1 := List.take_append_drop (ds.length - 1) ds
    rw [drop_cons ds _ (by omega), List.drop_eq_nil_of_le (by omega)] at h1
    exact h1.symm
  exact h _ _ e
theorem rev_getD (ys : List Int) (j : Nat) (hj : j < ys.length) : ys.reverse.getD (ys.length - 1 - j) 0 = ys.getD j 0 := by
  have h2 : ys.length - 1 - j < ys.length := by omega
  simp only [List.getD]
  rw [List.getElem?_reverse h2, show ys.length - 1 - (ys.length - 1 - j) = j by omega]
end Go.Proofs.Qxb6619687a.M
