import Derived.Test.Qxb6617207aPat
import Derived.Laws.BytesArg
namespace Go.Proofs.Qxb6617207a.P
open Go

/-- how many runs of '%' begin in xs; p: whether a '%' stands right ahead of it -/
def runs : Bool → List Int → Nat
  | _, [] => 0
  | p, x :: xs => (if x = 37 ∧ p = false then 1 else 0) + runs (decide (x = 37)) xs
def cnt : List Int → Nat
  | [] => 0
  | x :: xs => (if x = 37 then 1 else 0) + cnt xs

theorem cnt_append : ∀ xs ys : List Int, cnt (xs ++ ys) = cnt xs + cnt ys
  | [], ys => by simp [cnt]
  | x :: xs, ys => by simp [cnt, cnt_append xs ys]; omega
theorem cnt_snoc_yes (xs : List Int) : cnt (xs ++ [37]) = cnt xs + 1 := by rw [cnt_append]; rfl
theorem cnt_snoc_no (xs : List Int) (x : Int) (h : x ≠ 37) : cnt (xs ++ [x]) = cnt xs := by rw [cnt_append]; simp [cnt, h]
theorem cnt_le : ∀ xs : List Int, cnt xs ≤ xs.length
  | [] => Nat.le_refl _
  | x :: xs => by have := cnt_le xs; simp only [cnt, List.length_cons]; split <;> omega

def last37 (p : Bool) (xs : List Int) : Bool := match xs.getLast? with | none => p | some y => decide (y = 37)
theorem last37_cons (p : Bool) (x : Int) (xs : List Int) : last37 p (x :: xs) = last37 (decide (x = 37)) xs := by
  unfold last37
  cases xs with
  | nil => simp
  | cons y ys =>
    rw [List.getLast?_cons_cons]
    have : (y :: ys).getLast? = some ((y :: ys).getLast (by simp)) := List.getLast?_eq_some_getLast (by simp)
    rw [this]
theorem runs_append : ∀ (p : Bool) (xs ys : List Int), runs p (xs ++ ys) = runs p xs + runs (last37 p xs) ys
  | p, [], ys => by simp [runs, last37]
  | p, x :: xs, ys => by
    rw [last37_cons, List.cons_append]
    simp only [runs]
    rw [runs_append]
    omega
theorem runs_le : ∀ (p : Bool) (xs : List Int), runs p xs ≤ xs.length
  | _, [] => Nat.le_refl _
  | p, x :: xs => by have := runs_le (decide (x = 37)) xs; simp only [runs, List.length_cons]; split <;> omega

theorem runs_snoc_yes (xs : List Int) (h : ¬ (xs.getLast? = some 37)) : runs false (xs ++ [37]) = runs false xs + 1 := by
  rw [runs_append]
  have : last37 false xs = false := by
    unfold last37
    cases hx : xs.getLast? with
    | none => rfl
    | some y => rw [hx] at h; simp at h; simp [h]
  rw [this]; rfl
theorem runs_snoc_no (xs : List Int) (x : Int) (h : ¬ (x = 37 ∧ ¬ (xs.getLast? = some 37))) : runs false (xs ++ [x]) = runs false xs := by
  rw [runs_append]
  by_cases hx : x = 37
  · have h2 : xs.getLast? = some 37 := by
      rcases Decidable.em (xs.getLast? = some 37) with e | e
      · exact e
      · exact absurd ⟨hx, e⟩ h
    have : last37 false xs = true := by unfold last37; rw [h2]; rfl
    rw [this, hx]; rfl
  · simp [runs, hx]

/-- a '%' of the pattern for each run in the runes -/
theorem cnt_foldl : ∀ (xs acc : List Int), cnt (xs.foldl col acc) = cnt acc + runs (decide (acc.getLast? = some 37)) xs
  | [], acc => by simp [runs]
  | x :: xs, acc => by
    rw [List.foldl_cons, cnt_foldl xs]
    unfold col
    split
    · rename_i h
      rw [h.2]
      simp [runs, h.1]
    · rename_i h
      simp only [runs, List.getLast?_concat, Option.some.injEq]
      by_cases hx : x = 37
      · subst hx
        have h2 : ¬ acc.getLast? = some 37 := fun e => h ⟨rfl, e⟩
        rw [cnt_snoc_yes]
        simp [h2]; omega
      · rw [cnt_snoc_no _ _ hx]
        simp [hx]
theorem cnt_cols (xs : List Int) : cnt (cols xs) = runs false xs := by
  unfold cols; rw [cnt_foldl]; simp [cnt]

theorem runs_skip : ∀ (ys rest : List Int) (p : Bool), ys ≠ [] → (∀ y, y ∈ ys → y ≠ 37) → runs p (ys ++ rest) = runs false rest
  | [], _, _, h, _ => absurd rfl h
  | [y], rest, p, _, h => by
    have := h y (by simp)
    simp [runs, this]
  | y :: z :: ys, rest, p, _, h => by
    have h1 := h y (by simp)
    have h2 := runs_skip (z :: ys) rest false (by simp) (fun x hx => h x (by simp [hx]))
    rw [List.cons_append]
    simp only [runs, h1, decide_false, h2]
    simp

theorem str_at (zs : List Int) (hr : ∀ j, 0 ≤ zs.getD j 0 ∧ zs.getD j 0 ≤ 255) (i : Nat) (h : i < zs.length) : ((strOfNums zs).get! i).toNat = (zs.getD i 0).toNat := by
  have h1 := hr i
  have e : (strOfNums zs).get! i = UInt8.ofNat (zs.getD i 0).toNat := by
    simp only [ByteArray.get!, strOfNums]
    rw [getElem!_pos _ _ (by simpa using h)]
    simp [h]
  rw [e, UInt8.toNat_ofNat']
  omega

/-- the runs in the bytes are the runs in the runes -/
theorem runs_bytes (zs : List Int) (hr : ∀ j, 0 ≤ zs.getD j 0 ∧ zs.getD j 0 ≤ 255) : ∀ (f i : Nat) (p : Bool), zs.length ≤ i + f → runs p (zs.drop i) = runs p (runes (strOfNums zs) f i)
  | 0, i, p, h => by
    rw [List.drop_eq_nil_of_le (by omega)]; rfl
  | f + 1, i, p, h => by
    simp only [runes, strOfNums_size]
    by_cases hi : i < zs.length
    · rw [if_pos hi]
      obtain ⟨d1, d2, d3⟩ := decode_pct (strOfNums zs) i (by rw [strOfNums_size]; exact hi)
      rw [strOfNums_size] at d2
      have ih := fun q => runs_bytes zs hr f (i + (Utf8.decode (strOfNums zs) i).2) q (by omega)
      generalize (Utf8.decode (strOfNums zs) i).2 = n at *
      generalize (Utf8.decode (strOfNums zs) i).1 = r at *
      rcases d3 with ⟨rfl, hb, rfl⟩ | ⟨hne, hb⟩
      · have hz : zs.getD i 0 = 37 := by rw [str_at zs hr i hi] at hb; omega
        have e : zs.drop i = 37 :: zs.drop (i + 1) := by rw [List.drop_eq_getElem_cons hi, ← hz]; simp [hi]
        rw [e]
        simp only [runs]
        rw [ih]
        simp
      · have e : zs.drop i = (zs.drop i).take n ++ zs.drop (i + n) := by
          rw [← List.drop_drop, List.take_append_drop]
        rw [e, runs_skip _ _ _ ?_ ?_, ih]
        · have : ¬ (r : Int) = 37 := by omega
          simp [runs, this]
        · intro h0
          have := congrArg List.length h0
          simp at this
          omega
        · intro y hy
          obtain ⟨k, hk, e2⟩ := List.getElem_of_mem hy
          simp at hk
          have h3 := hb k (by omega)
          rw [str_at zs hr (i + k) (by omega)] at h3
          have e3 : y = zs.getD (i + k) 0 := by
            rw [← e2]
            simp [show i + k < zs.length by omega]
          rw [e3]
          omega
    · rw [if_neg hi, List.drop_eq_nil_of_le (by omega)]

theorem cnt_runs (zs : List Int) (hr : ∀ j, 0 ≤ zs.getD j 0 ∧ zs.getD j 0 ≤ 255) : cnt (cols (runes (strOfNums zs) (strOfNums zs).size 0)) = runs false zs := by
  rw [cnt_cols, ← runs_bytes zs hr _ 0 false (by rw [strOfNums_size]; omega)]
  rfl

theorem last_take (zs : List Int) (k : Nat) (hk : k ≤ zs.length) : (zs.take k).getLast? = some 37 ↔ 0 < k ∧ zs.getD (k - 1) 0 = 37 := by
  rw [getLast_getD]
  have hl : (zs.take k).length = k := by simp; omega
  rw [hl]
  constructor
  · rintro ⟨h1, h2⟩
    refine ⟨h1, ?_⟩
    rw [← h2]; simp [List.getD, show k - 1 < k by omega]
  · rintro ⟨h1, h2⟩
    refine ⟨h1, ?_⟩
    rw [← h2]; simp [List.getD, show k - 1 < k by omega]
theorem runs_take_yes {zs : List Int} {k : Nat} (hk : k < zs.length) (hz : zs.getD k 0 = 37) (h : k = 0 ∨ zs.getD (k - 1) 0 ≠ 37) : runs false (zs.take (k + 1)) = runs false (zs.take k) + 1 := by
  rw [take_succ' zs k hk, hz]
  refine runs_snoc_yes _ fun e => ?_
  have := (last_take zs k (by omega)).1 e
  rcases h with h | h
  · omega
  · exact h this.2
theorem runs_take_no {zs : List Int} {k : Nat} (hk : k < zs.length) (h : ¬ (zs.getD k 0 = 37 ∧ (k = 0 ∨ zs.getD (k - 1) 0 ≠ 37))) : runs false (zs.take (k + 1)) = runs false (zs.take k) := by
  rw [take_succ' zs k hk]
  refine runs_snoc_no _ _ ?_
  rintro ⟨h1, h2⟩
  refine h ⟨h1, ?_⟩
  rcases Nat.eq_zero_or_pos k with h3 | h3
  · exact .inl h3
  · exact .inr fun e => h2 ((last_take zs k (by omega)).2 ⟨h3, e⟩)
theorem cnt_take_yes {C : List Int} {k : Nat} (hk : k < C.length) (hz : C.getD k 0 = 37) : cnt (C.take (k + 1)) = cnt (C.take k) + 1 := by
  rw [take_succ' C k hk, hz, cnt_snoc_yes]
theorem cnt_take_no {C : List Int} {k : Nat} (hk : k < C.length) (hz : C.getD k 0 ≠ 37) : cnt (C.take (k + 1)) = cnt (C.take k) := by
  rw [take_succ' C k hk, cnt_snoc_no _ _ hz]
theorem cnt_take_le (C : List Int) (k : Nat) : cnt (C.take k) ≤ k := by
  have := cnt_le (C.take k); simp at this; omega
theorem runs_take_le (zs : List Int) (k : Nat) : runs false (zs.take k) ≤ k := by
  have := runs_le false (zs.take k); simp at this; omega

/-! ### no two side by side -/
def NoAdj (C : List Int) : Prop := ∀ k, k + 1 < C.length → ¬ (C.getD k 0 = 37 ∧ C.getD (k + 1) 0 = 37)
theorem noAdj_col {acc : List Int} (h : NoAdj acc) (r : Int) : NoAdj (col acc r) := by
  unfold col
  split
  · exact h
  · rename_i hc
    intro k hk
    rw [List.length_append, List.length_singleton] at hk
    rcases Nat.lt_or_ge (k + 1) acc.length with h1 | h1
    · have e1 : (acc ++ [r]).getD k 0 = acc.getD k 0 := by simp [List.getD, List.getElem?_append_left, show k < acc.length by omega]
      have e2 : (acc ++ [r]).getD (k + 1) 0 = acc.getD (k + 1) 0 := by simp [List.getD, List.getElem?_append_left, h1]
      rw [e1, e2]; exact h k h1
    · have hk2 : k + 1 = acc.length := by omega
      have e1 : (acc ++ [r]).getD k 0 = acc.getD k 0 := by simp [List.getD, List.getElem?_append_left, show k < acc.length by omega]
      have e2 : (acc ++ [r]).getD (k + 1) 0 = r := by simp [List.getD, hk2]
      rw [e1, e2]
      rintro ⟨a1, a2⟩
      refine hc ⟨a2, (getLast_getD acc).2 ⟨by omega, ?_⟩⟩
      rw [← hk2, Nat.add_sub_cancel]; exact a1
theorem noAdj_foldl : ∀ (xs acc : List Int), NoAdj acc → NoAdj (xs.foldl col acc)
  | [], _, h => h
  | x :: xs, _, h => noAdj_foldl xs _ (noAdj_col h x)
theorem noAdj_cols (xs : List Int) : NoAdj (cols xs) := noAdj_foldl xs [] (fun k hk => by simp at hk)

end Go.Proofs.Qxb6617207a.P
