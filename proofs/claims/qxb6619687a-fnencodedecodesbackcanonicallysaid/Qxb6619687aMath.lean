namespace Go.Proofs.Qxb6619687a.M

/-- the value of digits (least significant first) in base B over a tail value t -/
def valT (B : Int) : List Int → Int → Int
  | [], t => t
  | d :: ds, t => d + B * valT B ds t

theorem valT_append (B : Int) (xs ys : List Int) (t : Int) : valT B (xs ++ ys) t = valT B xs (valT B ys t) := by
  induction xs with
  | nil => rfl
  | cons d ds ih => simp [valT, ih]

theorem valT_snoc (B : Int) (xs : List Int) (d t : Int) : valT B (xs ++ [d]) t = valT B xs (d + B * t) := by
  rw [valT_append]; rfl

/-- every digit is in [0, B) -/
def Rng (B : Int) (xs : List Int) : Prop := ∀ d, d ∈ xs → 0 ≤ d ∧ d < B
/-- the last digit (the most significant) is not zero -/
def Top (xs : List Int) : Prop := ∀ ys d, xs = ys ++ [d] → d ≠ 0
def Canon (B : Int) (xs : List Int) : Prop := Rng B xs ∧ Top xs

theorem rng_nil (B : Int) : Rng B [] := by intro d h; cases h
theorem top_nil : Top [] := by intro ys d h; simp at h
theorem canon_nil (B : Int) : Canon B [] := ⟨rng_nil B, top_nil⟩
theorem rng_cons {B d : Int} {ds : List Int} (h : Rng B (d :: ds)) : (0 ≤ d ∧ d < B) ∧ Rng B ds :=
  ⟨h d (by simp), fun x hx => h x (by simp [hx])⟩
theorem rng_snoc {B d : Int} {ds : List Int} (h : Rng B ds) (h0 : 0 ≤ d) (h1 : d < B) : Rng B (ds ++ [d]) := by
  intro x hx
  rcases List.mem_append.1 hx with hx | hx
  · exact h x hx
  · simp at hx; subst hx; exact ⟨h0, h1⟩
theorem top_cons {d e : Int} {ds : List Int} (h : Top (d :: e :: ds)) : Top (e :: ds) := by
  intro ys x hx
  exact h (d :: ys) x (by simp [hx])
theorem top_snoc {d : Int} {ds : List Int} (h : d ≠ 0) : Top (ds ++ [d]) := by
  intro ys x hx
  have := List.append_inj_right' hx rfl
  simp at this; subst this; exact h

theorem valT_nonneg {B : Int} (hB : 0 ≤ B) : ∀ {xs : List Int}, Rng B xs → ∀ {t : Int}, 0 ≤ t → 0 ≤ valT B xs t
  | [], _, _, ht => ht
  | d :: ds, h, t, ht => by
    have h1 := (rng_cons h).1
    have h2 := valT_nonneg hB (rng_cons h).2 ht
    have h3 := Int.mul_nonneg hB h2
    simp only [valT]; omega

theorem canon_pos {B : Int} (hB : 2 ≤ B) : ∀ {d : Int} {ds : List Int}, Canon B (d :: ds) → 0 < valT B (d :: ds) 0
  | d, [], h => by
    have h1 := (rng_cons h.1).1
    have h2 := h.2 [] d rfl
    simp only [valT]; omega
  | d, e :: ds, h => by
    have h1 := (rng_cons h.1).1
    have h2 := canon_pos hB (d := e) (ds := ds) ⟨(rng_cons h.1).2, top_cons h.2⟩
    have h3 := Int.mul_pos (show 0 < B by omega) h2
    show 0 < d + B * valT B (e :: ds) 0
    omega

theorem canon_tail {B d : Int} {ds : List Int} (h : Canon B (d :: ds)) : Canon B ds := by
  refine ⟨(rng_cons h.1).2, ?_⟩
  cases ds with
  | nil => exact top_nil
  | cons e ds => exact top_cons h.2

theorem digit_eq {B x y X Y : Int} (hB : 2 ≤ B) (hx : 0 ≤ x ∧ x < B) (hy : 0 ≤ y ∧ y < B) (h : x + B * X = y + B * Y) : x = y ∧ X = Y := by
  have e1 : (x + B * X) % B = x := by rw [Int.add_mul_emod_self_left]; exact Int.emod_eq_of_lt hx.1 hx.2
  have e2 : (y + B * Y) % B = y := by rw [Int.add_mul_emod_self_left]; exact Int.emod_eq_of_lt hy.1 hy.2
  have hxy : x = y := by rw [← e1, ← e2, h]
  subst hxy
  refine ⟨rfl, ?_⟩
  have : B * X = B * Y := by omega
  exact Int.eq_of_mul_eq_mul_left (by omega) this

theorem canon_unique {B : Int} (hB : 2 ≤ B) : ∀ {xs ys : List Int}, Canon B xs → Canon B ys → valT B xs 0 = valT B ys 0 → xs = ys
  | [], [], _, _, _ => rfl
  | [], d :: ds, _, h2, h => by
    have := canon_pos hB h2
    rw [← h] at this
    simp [valT] at this
  | d :: ds, [], h1, _, h => by
    have := canon_pos hB h1
    rw [h] at this
    simp [valT] at this
  | x :: xs, y :: ys, h1, h2, h => by
    have e := digit_eq hB (rng_cons h1.1).1 (rng_cons h2.1).1 h
    have := canon_unique hB (canon_tail h1) (canon_tail h2) e.2
    rw [e.1, this]

/-- the value of bytes, most significant first -/
def valBE (zs : List Int) : Int := valT 256 zs.reverse 0
theorem valBE_snoc (zs : List Int) (z : Int) : valBE (zs ++ [z]) = z + 256 * valBE zs := by
  simp [valBE, valT]
theorem valBE_nil : valBE [] = 0 := rfl

/-- how many zeros stand ahead -/
def lz : List Int → Nat
  | [] => 0
  | z :: zs => if z = 0 then lz zs + 1 else 0
theorem lz_le : ∀ zs : List Int, lz zs ≤ zs.length
  | [] => Nat.le_refl _
  | z :: zs => by
    have := lz_le zs
    simp only [lz]; split <;> simp <;> omega
theorem lz_take : ∀ zs : List Int, zs.take (lz zs) = List.replicate (lz zs) 0
  | [] => rfl
  | z :: zs => by
    simp only [lz]; split
    · rename_i h; subst h
      rw [List.take_succ_cons, lz_take zs, List.replicate_succ]
    · rfl
/-- the count as a loop finds it: k zeros ahead, and then the end or another byte -/
theorem lz_eq : ∀ (zs : List Int) (k : Nat), k ≤ zs.length → (∀ i, i < k → zs.getD i 0 = 0) → (k < zs.length → zs.getD k 0 ≠ 0) → lz zs = k
  | [], k, hk, _, _ => by simp at hk; subst hk; rfl
  | z :: zs, 0, _, _, h => by
    have := h (by simp)
    simp at this
    simp [lz, this]
  | z :: zs, k + 1, hk, h0, h => by
    have hz := h0 0 (by omega)
    simp at hz
    have := lz_eq zs k (by simpa using hk) (fun i hi => by have := h0 (i + 1) (by omega); simpa using this) (fun hl => by have := h (by simp; omega); simpa using this)
    simp [lz, hz, this]
theorem lz_head (zs : List Int) (h : lz zs < zs.length) : zs.getD (lz zs) 0 ≠ 0 := by
  induction zs with
  | nil => simp at h
  | cons z zs ih =>
    simp only [lz] at h ⊢
    split
    · rename_i hz
      rw [if_pos hz] at h
      have := ih (by simpa using h)
      simpa using this
    · rename_i hz
      simpa using hz
theorem lz_replicate (k : Nat) (zs : List Int) : lz (List.replicate k 0 ++ zs) = k + lz zs := by
  induction k with
  | zero => simp
  | succ k ih => rw [List.replicate_succ, List.cons_append]; simp only [lz, if_pos, ih]; omega

/-! ### Encode's rounds -/

/-- one digit of the inner loop -/
theorem inner_step (pre rest : List Int) (d c : Int) :
    valT 58 (pre ++ [(c + d * 256) % 58]) ((c + d * 256) / 58 + 256 * valT 58 rest 0) = valT 58 pre (c + 256 * valT 58 (d :: rest) 0) := by
  rw [valT_snoc]
  simp only [valT]
  congr 1
  omega

/-- one digit of the outer loop -/
theorem outer_step (xs : List Int) (c : Int) : valT 58 (xs ++ [c % 58]) (c / 58) = valT 58 xs c := by
  rw [valT_snoc]
  congr 1
  omega

theorem rng_getD {B : Int} {xs : List Int} (h : Rng B xs) {i : Nat} (hi : i < xs.length) : 0 ≤ xs.getD i 0 ∧ xs.getD i 0 < B := by
  have : xs.getD i 0 = xs[i] := by simp [hi]
  rw [this]; exact h _ (List.getElem_mem hi)
theorem rng_set {B : Int} {xs : List Int} (h : Rng B xs) (i : Nat) {x : Int} (h0 : 0 ≤ x) (h1 : x < B) : Rng B (xs.set i x) := by
  intro d hd
  rcases List.mem_or_eq_of_mem_set hd with hd | rfl
  · exact h d hd
  · exact ⟨h0, h1⟩
theorem drop_cons (xs : List Int) (i : Nat) (hi : i < xs.length) : xs.drop i = xs.getD i 0 :: xs.drop (i + 1) := by
  rw [List.drop_eq_getElem_cons hi]; simp [hi]
theorem take_set_snoc (xs : List Int) (i : Nat) (x : Int) (hi : i < xs.length) : (xs.set i x).take (i + 1) = xs.take i ++ [x] := by
  rw [List.take_succ_eq_append_getElem (by simpa using hi), List.take_set_of_le (Nat.le_refl _)]
  simp
theorem drop_set_succ (xs : List Int) (i : Nat) (x : Int) : (xs.set i x).drop (i + 1) = xs.drop (i + 1) := by
  rw [List.drop_set_of_lt (by omega)]

/-- what holds of the digits 'xs' and the carry c behind i rounds of the inner loop: 'ds': the digits as they were -/
def Inner (ds xs : List Int) (i : Nat) (c N : Int) : Prop :=
  xs.length = ds.length ∧ Rng 58 xs ∧ 0 ≤ c ∧ c ≤ 255 ∧ valT 58 (xs.take i) (c + 256 * valT 58 (xs.drop i) 0) = N ∧ xs.drop i = ds.drop i ∧ (0 < i → i = ds.length → 0 < c)

theorem inner_start (ds : List Int) (v : Int) (h : Rng 58 ds) (h0 : 0 ≤ v) (h1 : v ≤ 255) : Inner ds ds 0 v (v + 256 * valT 58 ds 0) :=
  ⟨rfl, h, h0, h1, rfl, rfl, fun h => absurd h (by omega)⟩

theorem inner_round {ds xs : List Int} {i : Nat} {c N d : Int} (h : Inner ds xs i c N) (htop : Top ds) (hi : i < ds.length) (hd : d = xs.getD i 0) :
    Inner ds (xs.set i ((c + d * 256) % 58)) (i + 1) ((c + d * 256) / 58) N := by
  obtain ⟨hl, hR, h0, h1, hv, hdr, _⟩ := h
  have hix : i < xs.length := by omega
  have hg := rng_getD hR hix
  rw [← hd] at hg
  refine ⟨by simpa using hl, rng_set hR i (by omega) (by omega), by omega, by omega, ?_, ?_, ?_⟩
  · rw [take_set_snoc xs i _ hix, drop_set_succ, inner_step, hd, ← drop_cons xs i hix]
    exact hv
  · rw [drop_set_succ, ← List.drop_drop, ← List.drop_drop, hdr]
  · intro _ hn
    have e := drop_cons xs i hix
    rw [← hd, hdr, List.drop_eq_nil_of_le (as := xs) (i := i + 1) (by omega)] at e
    have e2 : ds = ds.take i ++ [d] := by rw [← e, List.take_append_drop]
    have := htop _ _ e2
    omega

theorem inner_end {ds xs : List Int} {c N : Int} (h : Inner ds xs ds.length c N) : valT 58 xs c = N ∧ Rng 58 xs ∧ 0 ≤ c ∧ c ≤ 255 ∧ (c = 0 → Top xs) ∧ xs.length = ds.length := by
  obtain ⟨hl, hR, h0, h1, hv, _, hc⟩ := h
  refine ⟨?_, hR, h0, h1, ?_, hl⟩
  · rw [List.take_of_length_le (by omega), List.drop_eq_nil_of_le (by omega)] at hv
    simpa [valT] using hv
  · intro hc0
    rcases Nat.eq_zero_or_pos ds.length with h | h
    · have : xs = [] := List.eq_nil_of_length_eq_zero (by omega)
      rw [this]; exact top_nil
    · have := hc h rfl; omega

/-- how many digits a carry still brings -/
def more (c : Int) : Nat := if c ≤ 0 then 0 else if c < 58 then 1 else 2
theorem more_round {c : Int} (h0 : 0 < c) (h1 : c ≤ 255) : more (c / 58) + 1 ≤ more c := by
  unfold more; repeat' split
  all_goals omega
theorem more_le (c : Int) : more c ≤ 2 := by unfold more; split <;> (try split) <;> omega

/-- what holds of the digits and the carry in the loop that brings the carry down; L: a bound on how many digits there are in the end -/
def Outer (xs : List Int) (c N : Int) (L : Nat) : Prop :=
  valT 58 xs c = N ∧ Rng 58 xs ∧ 0 ≤ c ∧ c ≤ 255 ∧ (c = 0 → Top xs) ∧ xs.length + more c ≤ L

theorem outer_round {xs : List Int} {c N : Int} {L : Nat} (h : Outer xs c N L) (hc : 0 < c) : Outer (xs ++ [c % 58]) (c / 58) N L := by
  obtain ⟨hv, hR, h0, h1, _, hL⟩ := h
  have hm := more_round hc h1
  refine ⟨by rw [outer_step]; exact hv, rng_snoc hR (by omega) (by omega), by omega, by omega, fun _ => top_snoc (by omega), by simp; omega⟩

theorem outer_end {xs : List Int} {c N : Int} {L : Nat} (h : Outer xs c N L) (hc : c ≤ 0) : Canon 58 xs ∧ valT 58 xs 0 = N ∧ xs.length ≤ L := by
  obtain ⟨hv, hR, h0, h1, ht, hL⟩ := h
  obtain rfl : c = 0 := by omega
  exact ⟨⟨hR, ht rfl⟩, hv, by omega⟩

/-- what holds of the digits behind j bytes -/
def Conv (ys ds : List Int) (j : Nat) : Prop := Canon 58 ds ∧ valT 58 ds 0 = valBE (ys.take j) ∧ ds.length ≤ 2 * j

theorem conv_start (ys : List Int) : Conv ys [] 0 := ⟨canon_nil _, by simp [valT, valBE], by simp⟩
theorem valBE_take_succ (ys : List Int) (j : Nat) (hj : j < ys.length) : valBE (ys.take (j + 1)) = ys.getD j 0 + 256 * valBE (ys.take j) := by
  rw [List.take_succ_eq_append_getElem hj, valBE_snoc]; simp [hj]
theorem conv_outer {ys ds xs : List Int} {j : Nat} {c : Int} (h : Conv ys ds j) (hj : j < ys.length) (hi : Inner ds xs ds.length c (ys.getD j 0 + 256 * valT 58 ds 0)) :
    Outer xs c (valBE (ys.take (j + 1))) (2 * (j + 1)) := by
  obtain ⟨hC, hv, hl⟩ := h
  obtain ⟨a1, a2, a3, a4, a5, a6⟩ := inner_end hi
  refine ⟨by rw [a1, valBE_take_succ ys j hj, hv], a2, a3, a4, a5, ?_⟩
  have := more_le c
  omega
theorem conv_round {ys xs : List Int} {j : Nat} {c : Int} (h : Outer xs c (valBE (ys.take (j + 1))) (2 * (j + 1))) (hc : c ≤ 0) : Conv ys xs (j + 1) := outer_end h hc

/-! ### the text -/
def alphabet : List Int := [49, 50, 51, 52, 53, 54, 55, 56, 57, 65, 66, 67, 68, 69, 70, 71, 72, 74, 75, 76, 77, 78, 80, 81, 82, 83, 84, 85, 86, 87, 88, 89, 90, 97, 98, 99, 100, 101, 102, 103, 104, 105, 106, 107, 109, 110, 111, 112, 113, 114, 115, 116, 117, 118, 119, 120, 121, 122]
def alph (d : Int) : Int := alphabet.getD d.toNat 0

/-- the text as the last loop of Encode fills it from behind: n digits in all, i of them laid -/
def filled (k : Nat) (ds : List Int) (i : Nat) : List Int := List.replicate k 49 ++ (List.replicate (ds.length - i) 0 ++ ((ds.take i).map alph).reverse)
theorem filled_length (k : Nat) (ds : List Int) (i : Nat) (h : i ≤ ds.length) : (filled k ds i).length = k + ds.length := by
  simp [filled]; omega
theorem filled_start (k : Nat) (ds : List Int) : List.replicate k 49 ++ List.replicate (k + ds.length - k) 0 = filled k ds 0 := by
  simp [filled]
theorem filled_round (k : Nat) (ds : List Int) (i : Nat) (h : i < ds.length) (x : Int) (hx : x = ds.getD i 0) :
    (filled k ds i).set (k + ds.length - 1 - i) (alph x) = filled k ds (i + 1) := by
  have e1 : List.replicate (ds.length - i) (0 : Int) = List.replicate (ds.length - (i + 1)) 0 ++ [0] := by
    rw [show ds.length - i = (ds.length - (i + 1)) + 1 by omega, List.replicate_succ']
  have e2 : ds.take (i + 1) = ds.take i ++ [x] := by
    rw [List.take_succ_eq_append_getElem h, hx]; simp [h]
  unfold filled
  rw [e1, e2]
  rw [List.set_append_right _ _ (by simp; omega), List.append_assoc, List.set_append_right _ _ (by simp; omega)]
  simp only [List.length_replicate]
  rw [show k + ds.length - 1 - i - k - (ds.length - (i + 1)) = 0 by omega]
  simp
theorem filled_end (k : Nat) (ds : List Int) : filled k ds ds.length = List.replicate k 49 ++ (ds.map alph).reverse := by
  simp [filled]
theorem ones_round (n i : Nat) (h : i < n) : (List.replicate i (49 : Int) ++ List.replicate (n - i) 0).set i 49 = List.replicate (i + 1) 49 ++ List.replicate (n - (i + 1)) 0 := by
  rw [List.set_append_right _ _ (by simp), show n - i = (n - (i + 1)) + 1 by omega, List.replicate_succ, List.replicate_succ']
  simp

/-- what Encode's text is, of bytes zs -/
def EncText (zs ts : List Int) : Prop :=
  ∃ ds, Canon 58 ds ∧ valT 58 ds 0 = valBE (zs.drop (lz zs)) ∧ ds.length ≤ 2 * (zs.length - lz zs) ∧ ts = List.replicate (lz zs) 49 ++ (ds.map alph).reverse
theorem encText_unique {zs ts ts' : List Int} (h : EncText zs ts) (h' : EncText zs ts') : ts = ts' := by
  obtain ⟨ds, c, v, _, rfl⟩ := h
  obtain ⟨ds', c', v', _, rfl⟩ := h'
  rw [canon_unique (by omega) c c' (v.trans v'.symm)]

theorem encText_length {zs ts : List Int} (h : EncText zs ts) : ts.length ≤ 2 * zs.length := by
  obtain ⟨ds, _, _, hl, rfl⟩ := h
  have := lz_le zs
  simp; omega
theorem encText_zeros {k : Nat} {zs t1 t2 : List Int} (h1 : EncText (List.replicate k 0 ++ zs) t1) (h2 : EncText zs t2) : t1 = List.replicate k 49 ++ t2 := by
  obtain ⟨ds, c, v, _, rfl⟩ := h1
  obtain ⟨ds', c', v', _, rfl⟩ := h2
  rw [lz_replicate] at v ⊢
  have e : (List.replicate k 0 ++ zs).drop (k + lz zs) = zs.drop (lz zs) := by
    rw [List.drop_append, List.drop_eq_nil_of_le (by simp)]
    simp
  rw [e] at v
  rw [canon_unique (by omega) c c' (v.trans v'.symm), ← List.append_assoc, List.replicate_append_replicate]

/-- k zeros, then the first i of zs, then zeros -/
def laid (k : Nat) (zs : List Int) (i : Nat) : List Int := List.replicate k 0 ++ (zs.take i ++ List.replicate (zs.length - i) 0)
theorem laid_length (k : Nat) (zs : List Int) (i : Nat) (h : i ≤ zs.length) : (laid k zs i).length = k + zs.length := by simp [laid]; omega
theorem laid_start (k : Nat) (zs : List Int) : List.replicate (k + zs.length) 0 = laid k zs 0 := by simp [laid]
theorem laid_end (k : Nat) (zs : List Int) : laid k zs zs.length = List.replicate k 0 ++ zs := by simp [laid]
theorem laid_round (k : Nat) (zs : List Int) (i : Nat) (h : i < zs.length) (x : Int) (hx : x = zs.getD i 0) : (laid k zs i).set (k + i) x = laid k zs (i + 1) := by
  have e2 : zs.take (i + 1) = zs.take i ++ [x] := by
    rw [List.take_succ_eq_append_getElem h, hx]; simp [h]
  unfold laid
  rw [List.set_append_right _ _ (by simp), List.length_replicate, Nat.add_sub_cancel_left]
  rw [List.set_append_right _ _ (by simp; omega), e2, show zs.length - i = (zs.length - (i + 1)) + 1 by omega, List.replicate_succ]
  have : i - (zs.take i).length = 0 := by simp; omega
  rw [this]
  simp

end Go.Proofs.Qxb6619687a.M
