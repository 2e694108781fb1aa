import Derived.Laws.RangeAny
import Derived.Laws.IdiomStrings
namespace Go.Proofs.Qxb6617207a.P
open Go

/-- the runes from byte i on, as the model decodes them; f: a bound on their number -/
def runes (s : ByteArray) : Nat → Nat → List Int
  | 0, _ => []
  | f + 1, i => if i < s.size then ((Utf8.decode s i).1 : Int) :: runes s f (i + (Utf8.decode s i).2) else []

theorem runesFrom_eq (s : ByteArray) : ∀ (f i : Nat) (acc : Array Value), Conv.runesFrom s f i acc = acc ++ ((runes s f i).map (Value.int .i32)).toArray
  | 0, i, acc => by simp [Conv.runesFrom, runes]
  | f + 1, i, acc => by
    simp only [Conv.runesFrom, runes]
    split
    · rw [runesFrom_eq s f]
      simp
    · simp

theorem runes_length (s : ByteArray) : ∀ f i, (runes s f i).length ≤ f
  | 0, i => by simp [runes]
  | f + 1, i => by
    simp only [runes]
    split
    · have := runes_length s f (i + (Utf8.decode s i).2); simp; omega
    · simp

/-! ### one step of decoding -/
theorem decode_pct (s : ByteArray) (i : Nat) (h : i < s.size) :
    1 ≤ (Utf8.decode s i).2 ∧ i + (Utf8.decode s i).2 ≤ s.size ∧ (((Utf8.decode s i).1 = 37 ∧ (s.get! i).toNat = 37 ∧ (Utf8.decode s i).2 = 1) ∨
      ((Utf8.decode s i).1 ≠ 37 ∧ ∀ k, k < (Utf8.decode s i).2 → (s.get! (i + k)).toNat ≠ 37)) := by
  simp only [Utf8.decode, Nat.add_zero]
  by_cases h0 : (s.get! i).toNat < 128
  · rw [if_pos h0]
    refine ⟨Nat.le_refl _, h, ?_⟩
    by_cases e : (s.get! i).toNat = 37
    · exact .inl ⟨e, e, rfl⟩
    · refine .inr ⟨e, fun k hk => ?_⟩
      obtain rfl : k = 0 := by simp only at hk; omega
      exact e
  · rw [if_neg h0]
    have bad : (1 ≤ (Utf8.runeError, 1).2 ∧ i + (Utf8.runeError, 1).2 ≤ s.size ∧ (((Utf8.runeError, 1).1 = 37 ∧ (s.get! i).toNat = 37 ∧ (Utf8.runeError, 1).2 = 1) ∨
      ((Utf8.runeError, 1).1 ≠ 37 ∧ ∀ k, k < (Utf8.runeError, 1).2 → (s.get! (i + k)).toNat ≠ 37))) := by
      refine ⟨Nat.le_refl _, h, .inr ⟨by simp [Utf8.runeError], fun k hk => ?_⟩⟩
      obtain rfl : k = 0 := by simp only at hk; omega
      rw [Nat.add_zero]; omega
    split
    · rename_i hc
      simp only [Bool.and_eq_true, beq_iff_eq, decide_eq_true_eq] at hc
      split
      · rename_i hr
        refine ⟨by simp, by simp only; omega, .inr ⟨by simp only; omega, fun k hk => ?_⟩⟩
        simp only at hk
        match k, hk with
        | 0, _ => rw [Nat.add_zero]; omega
        | 1, _ => omega
      · exact bad
    · split
      · rename_i hc
        simp only [Bool.and_eq_true, beq_iff_eq, decide_eq_true_eq] at hc
        split
        · rename_i hr
          simp only [Bool.and_eq_true, decide_eq_true_eq] at hr
          refine ⟨by simp, by simp only; omega, .inr ⟨by simp only; omega, fun k hk => ?_⟩⟩
          simp only at hk
          match k, hk with
          | 0, _ => rw [Nat.add_zero]; omega
          | 1, _ => omega
          | 2, _ => omega
        · exact bad
      · split
        · rename_i hc
          simp only [Bool.and_eq_true, beq_iff_eq, decide_eq_true_eq] at hc
          split
          · rename_i hr
            simp only [Bool.and_eq_true, decide_eq_true_eq] at hr
            refine ⟨by simp, by simp only; omega, .inr ⟨by simp only; omega, fun k hk => ?_⟩⟩
            simp only at hk
            match k, hk with
            | 0, _ => rw [Nat.add_zero]; omega
            | 1, _ => omega
            | 2, _ => omega
            | 3, _ => omega
          · exact bad
        · exact bad

/-! ### runs of '%' made one -/
def col (acc : List Int) (r : Int) : List Int := if r = 37 ∧ acc.getLast? = some 37 then acc else acc ++ [r]
def cols (xs : List Int) : List Int := xs.foldl col []
theorem cols_snoc (xs : List Int) (r : Int) : cols (xs ++ [r]) = col (cols xs) r := by simp [cols]
theorem snoc_cases {α : Type} (xs : List α) : xs = [] ∨ ∃ ys y, xs = ys ++ [y] := by
  rcases List.eq_nil_or_concat xs with h | ⟨ys, y, h⟩
  · exact .inl h
  · exact .inr ⟨ys, y, by simpa using h⟩
theorem last_cols : ∀ (n : Nat) (xs : List Int), xs.length = n → (cols xs).getLast? = xs.getLast?
  | 0, xs, h => by
    have : xs = [] := List.eq_nil_of_length_eq_zero h
    subst this; rfl
  | n + 1, xs, h => by
    rcases snoc_cases xs with rfl | ⟨ys, y, rfl⟩
    · simp at h
    · rw [cols_snoc]
      unfold col
      split
      · rename_i hc
        rw [hc.2, hc.1]; simp
      · simp
theorem last_cols' (xs : List Int) : (cols xs).getLast? = xs.getLast? := last_cols _ xs rfl

theorem getLast_getD (xs : List Int) : xs.getLast? = some 37 ↔ 0 < xs.length ∧ xs.getD (xs.length - 1) 0 = 37 := by
  rcases snoc_cases xs with rfl | ⟨ys, y, rfl⟩
  · simp
  · simp [List.getD]

theorem col_yes {acc : List Int} {r : Int} (h : r = 37) (h1 : 0 < acc.length) (h2 : acc.getD (acc.length - 1) 0 = 37) : col acc r = acc := by
  unfold col; rw [if_pos ⟨h, (getLast_getD acc).2 ⟨h1, h2⟩⟩]
theorem col_no {acc : List Int} {r : Int} (h : ¬ (r = 37 ∧ 0 < acc.length ∧ acc.getD (acc.length - 1) 0 = 37)) : col acc r = acc ++ [r] := by
  unfold col; rw [if_neg (fun hh => h ⟨hh.1, (getLast_getD acc).1 hh.2⟩)]

theorem take_succ' (xs : List Int) (k : Nat) (h : k < xs.length) : xs.take (k + 1) = xs.take k ++ [xs.getD k 0] := by
  rw [List.take_succ_eq_append_getElem h]; simp [h]
/-- the test of the law: all[k] == '%' && k > 0 && all[k-1] == '%' -/
def drop? (xs : List Int) (k : Nat) : Prop := xs.getD k 0 = 37 ∧ 0 < k ∧ xs.getD (k - 1) 0 = 37
def dropB (xs : List Int) (k : Nat) : Bool := decide (xs.getD k 0 = 37 ∧ 0 < k ∧ xs.getD (k - 1) 0 = 37)
theorem dropB_yes {xs : List Int} {k : Nat} (h : drop? xs k) : dropB xs k = true := decide_eq_true h
theorem dropB_no {xs : List Int} {k : Nat} (h : ¬ drop? xs k) : dropB xs k = false := decide_eq_false h
theorem cols_yes {xs : List Int} {k : Nat} (h : k < xs.length) (hd : drop? xs k) : cols (xs.take (k + 1)) = cols (xs.take k) := by
  rw [take_succ' xs k h, cols_snoc]
  unfold col
  rw [if_pos]
  refine ⟨hd.1, ?_⟩
  rw [last_cols', getLast_getD]
  have hl : (xs.take k).length = k := by simp; omega
  rw [hl]
  refine ⟨hd.2.1, ?_⟩
  rw [← hd.2.2]
  have := hd.2.1
  simp [List.getD, show k - 1 < k by omega]
theorem cols_no {xs : List Int} {k : Nat} (h : k < xs.length) (hd : ¬ drop? xs k) : cols (xs.take (k + 1)) = cols (xs.take k) ++ [xs.getD k 0] := by
  rw [take_succ' xs k h, cols_snoc]
  unfold col
  rw [if_neg]
  rintro ⟨h1, h2⟩
  rw [last_cols', getLast_getD] at h2
  have hl : (xs.take k).length = k := by simp; omega
  rw [hl] at h2
  refine hd ⟨h1, h2.1, ?_⟩
  rw [← h2.2]
  have := h2.1
  simp [List.getD, show k - 1 < k by omega]

theorem col_prefix (acc : List Int) (r : Int) : ∃ t, col acc r = acc ++ t := by
  unfold col; split
  · exact ⟨[], by simp⟩
  · exact ⟨[r], rfl⟩
theorem foldl_prefix : ∀ (ys acc : List Int), ∃ t, ys.foldl col acc = acc ++ t
  | [], acc => ⟨[], by simp⟩
  | y :: ys, acc => by
    obtain ⟨t1, h1⟩ := col_prefix acc y
    obtain ⟨t2, h2⟩ := foldl_prefix ys (col acc y)
    exact ⟨t1 ++ t2, by rw [List.foldl_cons, h2, h1, List.append_assoc]⟩
theorem cols_prefix (xs : List Int) (k : Nat) : ∃ t, cols xs = cols (xs.take k) ++ t := by
  have e : cols xs = (xs.drop k).foldl col (cols (xs.take k)) := by
    unfold cols
    rw [← List.foldl_append, List.take_append_drop]
  rw [e]; exact foldl_prefix _ _
/-- a rune that is kept is the next of the pattern's -/
theorem cols_next {xs : List Int} {k : Nat} (h : k < xs.length) (hd : ¬ drop? xs k) : (cols (xs.take k)).length < (cols xs).length ∧ (cols xs).getD (cols (xs.take k)).length 0 = xs.getD k 0 := by
  obtain ⟨t, ht⟩ := cols_prefix xs (k + 1)
  rw [cols_no h hd] at ht
  rw [ht]
  simp [List.getD]
theorem cols_length (xs : List Int) : ∀ n, n ≤ xs.length → (cols (xs.take n)).length ≤ n
  | 0, _ => by simp [cols]
  | n + 1, h => by
    have := cols_length xs n (by omega)
    by_cases hd : drop? xs n
    · rw [cols_yes (by omega) hd]; omega
    · rw [cols_no (by omega) hd]; simp; omega

end Go.Proofs.Qxb6617207a.P
