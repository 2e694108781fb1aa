namespace Go.Proofs.Qxb6617207a.D
set_option linter.unusedSimpArgs false

def isD (z : Int) : Bool := decide (48 ≤ z ∧ z ≤ 57)
/-- how many digits open it -/
def digs : List Int → Nat
  | [] => 0
  | z :: zs => if isD z = true then digs zs + 1 else 0
def allD (s : List Int) : Bool := !s.isEmpty && s.all isD
/-- without its minus sign -/
def sgn : List Int → List Int
  | [] => []
  | c :: t => if c = 45 then t else c :: t
/-- without the sign of an exponent -/
def strip : List Int → List Int
  | [] => []
  | c :: t => if c = 43 ∨ c = 45 then t else c :: t
def isE (c : Int) : Bool := decide (c = 101 ∨ c = 69)

theorem sgn_yes {zs : List Int} (hp : 0 < zs.length) (h : zs.getD 0 0 = 45) : zs.drop 1 = sgn zs := by
  cases zs with
  | nil => simp at hp
  | cons c t => simp at h; simp [sgn, h]
theorem sgn_no {zs : List Int} (h : ¬ zs.getD 0 0 = 45) : zs.drop 0 = sgn zs := by
  cases zs with
  | nil => rfl
  | cons c t => simp at h; simp [sgn, h]
theorem strip_yes {zs : List Int} (hp : 0 < zs.length) (h : zs.getD 0 0 = 43 ∨ zs.getD 0 0 = 45) : zs.drop 1 = strip zs := by
  cases zs with
  | nil => simp at hp
  | cons c t => simp at h; simp [strip, h]
theorem strip_no {zs : List Int} (h : 0 < zs.length → ¬ (zs.getD 0 0 = 43 ∨ zs.getD 0 0 = 45)) : zs.drop 0 = strip zs := by
  cases zs with
  | nil => rfl
  | cons c t => have := h (by simp); simp at this; simp [strip, this]

theorem allD_nil : allD [] = false := rfl
theorem allD_yes {s : List Int} (hp : 0 < s.length) (h : ∀ i, i < s.length → isD (s.getD i 0) = true) : allD s = true := by
  simp only [allD, Bool.and_eq_true, Bool.not_eq_true', List.isEmpty_eq_false_iff, List.all_eq_true]
  refine ⟨fun e => by subst e; simp at hp, fun x hx => ?_⟩
  obtain ⟨i, hi, e⟩ := List.getElem_of_mem hx
  have := h i hi
  simp [hi, e] at this
  exact this
theorem allD_no {s : List Int} {i : Nat} (hi : i < s.length) (h : isD (s.getD i 0) = false) : allD s = false := by
  simp only [allD, Bool.and_eq_false_iff]
  refine .inr ?_
  rw [List.all_eq_false]
  refine ⟨s[i], List.getElem_mem hi, ?_⟩
  simp [hi] at h
  simp [h]

/-! ### what numberForm computes -/
def frac : List Int → Option (List Int)
  | [] => some []
  | c :: t => if c = 46 then (if digs t = 0 then none else some (t.drop (digs t))) else some (c :: t)
def expo : List Int → Option (List Int)
  | [] => some []
  | c :: t => if isE c = true then (if digs (strip t) = 0 then none else some ((strip t).drop (digs (strip t)))) else some (c :: t)
def nfE (r : List Int) : Bool × Bool := match expo r with | none => (false, false) | some x => (x.isEmpty, false)
def nfF (r : List Int) : Bool × Bool := match frac r with | none => (false, false) | some x => nfE x
def bad (s : List Int) : Bool := decide (digs s = 0 ∨ (1 < digs s ∧ s.getD 0 0 = 48))
def nfS (s : List Int) : Bool × Bool := if bad s = true then (false, false) else if s.drop (digs s) = [] then (true, true) else nfF (s.drop (digs s))
def nf (zs : List Int) : Bool × Bool := nfS (sgn zs)

/-! ### what the model computes -/
def cutE : List Int → List Int × Option (List Int)
  | [] => ([], none)
  | c :: t => if isE c = true then ([], some t) else (c :: (cutE t).1, (cutE t).2)
def cutD : List Int → List Int × Option (List Int)
  | [] => ([], none)
  | c :: t => if c = 46 then ([], some t) else (c :: (cutD t).1, (cutD t).2)
def badF (f : Option (List Int)) : Bool := match f with | none => false | some x => !allD x
def badX (f : Option (List Int)) : Bool := match f with | none => false | some x => !allD (strip x)
def nmI (int : List Int) (fr ex : Option (List Int)) : Bool × Bool :=
  if allD int = false then (false, false) else if 1 < int.length ∧ int.getD 0 0 = 48 then (false, false)
  else if badF fr = true then (false, false) else if badX ex = true then (false, false) else (true, fr.isNone && ex.isNone)
def nmS (s : List Int) : Bool × Bool := nmI (cutD (cutE s).1).1 (cutD (cutE s).1).2 (cutE s).2
def nm (zs : List Int) : Bool × Bool := nmS (sgn zs)

theorem cutE_none : ∀ s : List Int, (∀ i, i < s.length → isE (s.getD i 0) = false) → cutE s = (s, none)
  | [], _ => rfl
  | c :: t, h => by
    have h0 := h 0 (by simp)
    simp at h0
    have ih := cutE_none t (fun i hi => by have := h (i + 1) (by simp; omega); simpa using this)
    simp [cutE, h0, ih]
theorem cutE_some : ∀ (s : List Int) (k : Nat), k < s.length → (∀ i, i < k → isE (s.getD i 0) = false) → isE (s.getD k 0) = true → cutE s = (s.take k, some (s.drop (k + 1)))
  | [], k, hk, _, _ => by simp at hk
  | c :: t, 0, _, _, h => by
    simp at h
    simp [cutE, h]
  | c :: t, k + 1, hk, h0, h => by
    have h1 := h0 0 (by omega)
    simp at h1
    have ih := cutE_some t k (by simpa using hk) (fun i hi => by have := h0 (i + 1) (by omega); simpa using this) (by simpa using h)
    simp [cutE, h1, ih]
theorem cutD_none : ∀ s : List Int, (∀ i, i < s.length → ¬ s.getD i 0 = 46) → cutD s = (s, none)
  | [], _ => rfl
  | c :: t, h => by
    have h0 := h 0 (by simp)
    simp at h0
    have ih := cutD_none t (fun i hi => by have := h (i + 1) (by simp; omega); simpa using this)
    simp [cutD, h0, ih]
theorem cutD_some : ∀ (s : List Int) (k : Nat), k < s.length → (∀ i, i < k → ¬ s.getD i 0 = 46) → s.getD k 0 = 46 → cutD s = (s.take k, some (s.drop (k + 1)))
  | [], k, hk, _, _ => by simp at hk
  | c :: t, 0, _, _, h => by
    simp at h
    simp [cutD, h]
  | c :: t, k + 1, hk, h0, h => by
    have h1 := h0 0 (by omega)
    simp at h1
    have ih := cutD_some t k (by simpa using hk) (fun i hi => by have := h0 (i + 1) (by omega); simpa using this) (by simpa using h)
    simp [cutD, h1, ih]
theorem nm_of {zs mant int : List Int} {ex fr : Option (List Int)} (h1 : cutE (sgn zs) = (mant, ex)) (h2 : cutD mant = (int, fr)) : nm zs = nmI int fr ex := by
  unfold nm nmS; rw [h1]; simp only; rw [h2]
theorem nmI_int {int : List Int} {fr ex : Option (List Int)} (h : allD int = false) : nmI int fr ex = (false, false) := by unfold nmI; rw [if_pos h]
theorem nmI_lead {int : List Int} {fr ex : Option (List Int)} (h : 1 < int.length ∧ int.getD 0 0 = 48) : nmI int fr ex = (false, false) := by
  unfold nmI
  split
  · rfl
  · rfl
theorem nmI_frac {int : List Int} {fr ex : Option (List Int)} (h : badF fr = true) : nmI int fr ex = (false, false) := by
  unfold nmI
  split
  · rfl
  · split
    · rfl
    · rfl
theorem nmI_exp {int : List Int} {fr ex : Option (List Int)} (h : badX ex = true) : nmI int fr ex = (false, false) := by
  unfold nmI
  split
  · rfl
  · split
    · rfl
    · split
      · rfl
      · rfl
theorem nmI_ok {int : List Int} {fr ex : Option (List Int)} (h1 : allD int = true) (h2 : ¬ (1 < int.length ∧ int.getD 0 0 = 48)) (h3 : badF fr = false) (h4 : badX ex = false) : nmI int fr ex = (true, fr.isNone && ex.isNone) := by
  unfold nmI
  rw [if_neg (by simp [h1]), if_neg h2, if_neg (by simp [h3]), if_neg (by simp [h4])]

/-! ### steps, as numberForm takes them: zs.drop q is what is left -/
theorem drop_at {zs : List Int} {q : Nat} (h : q < zs.length) : zs.drop q = zs.getD q 0 :: zs.drop (q + 1) := by
  rw [List.drop_eq_getElem_cons h]; simp [h]
theorem nfS_bad {s : List Int} (h : bad s = true) : nfS s = (false, false) := by unfold nfS; rw [if_pos h]
theorem nfS_end {s : List Int} (h : bad s = false) (h2 : s.drop (digs s) = []) : nfS s = (true, true) := by unfold nfS; rw [if_neg (by simp [h]), if_pos h2]
theorem nfS_go {s : List Int} (h : bad s = false) (h2 : s.drop (digs s) ≠ []) : nfS s = nfF (s.drop (digs s)) := by unfold nfS; rw [if_neg (by simp [h]), if_neg h2]
theorem nfF_no {c : Int} {t : List Int} (h : ¬ c = 46) : nfF (c :: t) = nfE (c :: t) := by simp [nfF, frac, h]
theorem nfF_zero {t : List Int} (h : digs t = 0) : nfF (46 :: t) = (false, false) := by simp [nfF, frac, h]
theorem nfF_some {t : List Int} (h : digs t ≠ 0) : nfF (46 :: t) = nfE (t.drop (digs t)) := by simp [nfF, frac, h]
theorem nfE_nil : nfE [] = (true, false) := rfl
theorem nfE_no {c : Int} {t : List Int} (h : isE c = false) : nfE (c :: t) = (false, false) := by simp [nfE, expo, h]
theorem nfE_zero {c : Int} {t : List Int} (h : isE c = true) (h0 : digs (strip t) = 0) : nfE (c :: t) = (false, false) := by simp [nfE, expo, h, h0]
theorem nfE_some {c : Int} {t : List Int} (h : isE c = true) (h0 : digs (strip t) ≠ 0) : nfE (c :: t) = (((strip t).drop (digs (strip t))).isEmpty, false) := by simp [nfE, expo, h, h0]

/-! ### digits -/
theorem digs_le : ∀ s : List Int, digs s ≤ s.length
  | [] => Nat.le_refl _
  | z :: zs => by have := digs_le zs; simp only [digs]; split <;> simp <;> omega
theorem digs_take : ∀ s : List Int, (s.take (digs s)).all isD = true
  | [] => rfl
  | z :: zs => by
    simp only [digs]; split
    · rename_i h; rw [List.take_succ_cons, List.all_cons, h, digs_take zs]; rfl
    · rfl
theorem digs_drop : ∀ s : List Int, s.drop (digs s) = [] ∨ ∃ c t, s.drop (digs s) = c :: t ∧ isD c = false
  | [] => .inl rfl
  | z :: zs => by
    simp only [digs]; split
    · rw [List.drop_succ_cons]; exact digs_drop zs
    · rename_i h; exact .inr ⟨z, zs, rfl, by simpa using h⟩
/-- the count as a loop finds it -/
theorem digs_eq : ∀ (s : List Int) (k : Nat), k ≤ s.length → (∀ i, i < k → isD (s.getD i 0) = true) → (k < s.length → isD (s.getD k 0) = false) → digs s = k
  | [], k, hk, _, _ => by simp at hk; subst hk; rfl
  | z :: zs, 0, _, _, h => by
    have := h (by simp)
    simp at this
    simp [digs, this]
  | z :: zs, k + 1, hk, h0, h => by
    have hz := h0 0 (by omega)
    simp at hz
    have := digs_eq zs k (by simpa using hk) (fun i hi => by have := h0 (i + 1) (by omega); simpa using this) (fun hl => by have := h (by simp; omega); simpa using this)
    simp [digs, hz, this]
theorem digs_app (d r : List Int) (hd : d.all isD = true) (hr : r = [] ∨ ∃ c t, r = c :: t ∧ isD c = false) : digs (d ++ r) = d.length := by
  induction d with
  | nil =>
    rcases hr with rfl | ⟨c, t, rfl, h⟩
    · rfl
    · simp [digs, h]
  | cons z d ih =>
    simp only [List.all_cons, Bool.and_eq_true] at hd
    rw [List.cons_append]
    simp only [digs, hd.1, if_true, ih hd.2, List.length_cons]
theorem allD_iff (s : List Int) : allD s = true ↔ (digs s ≠ 0 ∧ s.drop (digs s) = []) := by
  have hs := List.take_append_drop (digs s) s
  have ht := digs_take s
  have hd := digs_drop s
  constructor
  · intro h
    simp only [allD, Bool.and_eq_true, Bool.not_eq_true', List.isEmpty_eq_false_iff] at h
    have e : digs s = s.length := by
      have := digs_app s [] h.2 (.inl rfl)
      simpa using this
    rw [e]
    refine ⟨?_, by simp⟩
    intro h0
    exact h.1 (List.eq_nil_of_length_eq_zero h0)
  · rintro ⟨h1, h2⟩
    rw [h2, List.append_nil] at hs
    rw [hs] at ht
    simp only [allD, Bool.and_eq_true, Bool.not_eq_true', List.isEmpty_eq_false_iff]
    refine ⟨?_, ht⟩
    intro h0
    subst h0
    exact h1 rfl
theorem allD_bad (d : List Int) (c : Int) (t : List Int) (h : isD c = false) : allD (d ++ c :: t) = false := by
  simp [allD, h]
theorem allD_digits (d : List Int) (h : d.all isD = true) : allD d = !d.isEmpty := by simp only [allD, h, Bool.and_true]

theorem isD_notE {c : Int} (h : isD c = true) : isE c = false := by
  simp only [isD, decide_eq_true_eq] at h
  simp only [isE, decide_eq_false_iff_not]; omega
theorem isD_notDot {c : Int} (h : isD c = true) : ¬ c = 46 := by
  simp only [isD, decide_eq_true_eq] at h; omega
theorem cutE_app (d r : List Int) (hd : d.all isD = true) : cutE (d ++ r) = (d ++ (cutE r).1, (cutE r).2) := by
  induction d with
  | nil => rfl
  | cons z d ih =>
    simp only [List.all_cons, Bool.and_eq_true] at hd
    rw [List.cons_append]
    simp only [cutE, isD_notE hd.1, ih hd.2]
    simp
theorem cutD_app (d r : List Int) (hd : d.all isD = true) : cutD (d ++ r) = (d ++ (cutD r).1, (cutD r).2) := by
  induction d with
  | nil => rfl
  | cons z d ih =>
    simp only [List.all_cons, Bool.and_eq_true] at hd
    rw [List.cons_append]
    simp only [cutD, isD_notDot hd.1, ih hd.2]
    simp

theorem isE_46 : isE 46 = false := by decide

theorem badX_eq (t : List Int) : badX (some t) = !(decide (digs (strip t) ≠ 0 ∧ (strip t).drop (digs (strip t)) = [])) := by
  simp only [badX]
  congr 1
  rw [Bool.eq_iff_iff, allD_iff, decide_eq_true_eq]

theorem nfE_e (c : Int) (t : List Int) (h : isE c = true) : nfE (c :: t) = (!badX (some t), false) := by
  rw [badX_eq]
  simp only [nfE, expo, h, if_true]
  by_cases h0 : digs (strip t) = 0
  · simp [h0]
  · rw [if_neg h0]
    by_cases h1 : (strip t).drop (digs (strip t)) = []
    · simp [h0, h1]
    · simp only [h0, h1, Bool.not_not, Prod.mk.injEq, and_true]
      simp only [List.isEmpty_eq_false_iff.2 h1]
      simp
theorem nfE_other (c : Int) (t : List Int) (h : isE c = false) : nfE (c :: t) = (false, false) := by
  simp [nfE, expo, h]

/-- behind a point: the digits up to the exponent -/
theorem frac_eq (t : List Int) : nfF (46 :: t) = (!badF (some (cutE t).1) && !badX (cutE t).2, false) := by
  have ht := digs_take t
  have e := List.take_append_drop (digs t) t
  simp only [nfF, frac, if_true]
  by_cases h0 : digs t = 0
  · rw [if_pos h0]
    have hb : badF (some (cutE t).1) = true := by
      simp only [badF]
      rcases digs_drop t with h | ⟨c, x, h, hc⟩
      · rw [h0] at h; simp at h; subst h; rfl
      · rw [h0] at h; simp at h; subst h
        simp only [cutE]
        split
        · rfl
        · have := allD_bad [] c (cutE x).1 hc
          simp only [List.nil_append] at this
          rw [this]; rfl
    rw [hb]; rfl
  · rw [if_neg h0]
    have hne : (t.take (digs t)).isEmpty = false := by
      rw [List.isEmpty_eq_false_iff]
      intro h
      have := congrArg List.length h
      have hl := digs_le t
      simp at this
      rcases this with h | h
      · exact h0 h
      · subst h; exact h0 rfl
    rcases digs_drop t with h | ⟨c, x, h, hc⟩
    · rw [h] at e ⊢
      have e2 : cutE t = (t.take (digs t), none) := by
        have := cutE_app (t.take (digs t)) [] ht
        rw [e] at this
        rw [this]; simp [cutE]
      rw [e2]
      simp only [nfE, expo, badF, badX, allD_digits _ ht, hne]
      rfl
    · have e2 : cutE t = (t.take (digs t) ++ (cutE (c :: x)).1, (cutE (c :: x)).2) := by
        have := cutE_app (t.take (digs t)) (c :: x) ht
        rw [← h, e] at this
        rw [this, h]
      rw [h, e2]
      by_cases hE : isE c = true
      · show nfE (c :: x) = _
        rw [nfE_e c x hE]
        simp only [cutE, hE, if_true, List.append_nil, badF, allD_digits _ ht, hne]
        simp
      · have hE2 : isE c = false := by simpa using hE
        show nfE (c :: x) = _
        rw [nfE_other c x hE2]
        simp only [cutE, hE2, badF]
        rw [if_neg (by simp)]
        rw [allD_bad _ c _ hc]
        rfl

/-- THE GRAMMAR: both are one function -/
theorem nfS_eq (s : List Int) : nfS s = nmS s := by
  have ht := digs_take s
  have e := List.take_append_drop (digs s) s
  have hl : (s.take (digs s)).length = digs s := by have := digs_le s; simp; omega
  generalize hd : s.take (digs s) = d at *
  have hdrop := digs_drop s
  generalize hr : s.drop (digs s) = r at *
  have hbad : bad s = decide (d.length = 0 ∨ (1 < d.length ∧ d.getD 0 0 = 48)) := by
    unfold bad
    rw [hl]
    congr 1
    apply propext
    constructor
    · rintro (h | ⟨h1, h2⟩)
      · exact .inl h
      · refine .inr ⟨h1, ?_⟩
        rw [← h2, ← e]
        simp [List.getD, List.getElem?_append_left, hl, show 0 < digs s by omega]
    · rintro (h | ⟨h1, h2⟩)
      · exact .inl h
      · refine .inr ⟨h1, ?_⟩
        rw [← h2, ← e]
        simp [List.getD, List.getElem?_append_left, hl, show 0 < digs s by omega]
  have hS : nfS s = if bad s = true then (false, false) else if r = [] then (true, true) else nfF r := by
    unfold nfS; rw [hr]
  rw [hS, hbad]
  have hM : nmS s = nmI (d ++ (cutD (cutE r).1).1) (cutD (cutE r).1).2 (cutE r).2 := by
    unfold nmS
    rw [← e, cutE_app d r ht]
    simp only
    rw [cutD_app d _ ht]
  rw [hM]
  clear hS hM hbad hd hr e hl
  by_cases h0 : d.length = 0
  · have hd0 : d = [] := List.eq_nil_of_length_eq_zero h0
    subst hd0
    rw [if_pos (by simp)]
    have hi : allD ([] ++ (cutD (cutE r).1).1) = false := by
      rw [List.nil_append]
      rcases hdrop with rfl | ⟨c, t, rfl, hc⟩
      · rfl
      · simp only [cutE]
        split
        · rfl
        · simp only [cutD]
          split
          · rfl
          · have := allD_bad [] c (cutD (cutE t).1).1 hc
            simpa using this
    unfold nmI
    rw [if_pos hi]
  · have hne : d.isEmpty = false := by
      rw [List.isEmpty_eq_false_iff]; intro h; rw [h] at h0; exact h0 rfl
    by_cases h1 : 1 < d.length ∧ d.getD 0 0 = 48
    · rw [if_pos (by simp only [decide_eq_true_eq]; exact .inr h1)]
      have h2 : 1 < (d ++ (cutD (cutE r).1).1).length ∧ (d ++ (cutD (cutE r).1).1).getD 0 0 = 48 := by
        refine ⟨by simp; omega, ?_⟩
        rw [← h1.2]
        simp [List.getD, List.getElem?_append_left, show 0 < d.length by omega]
      unfold nmI
      split
      · rfl
      · rfl
    · rw [if_neg (by simp only [decide_eq_true_eq]; rintro (h | h); exact h0 h; exact h1 h)]
      have hok : allD d = true := by rw [allD_digits d ht, hne]; rfl
      rcases hdrop with rfl | ⟨c, t, rfl, hc⟩
      · rw [if_pos rfl]
        simp only [cutE, cutD, List.append_nil, nmI, hok, h1, badF, badX]
        simp
      · rw [if_neg (by simp)]
        by_cases hdot : c = 46
        · subst hdot
          rw [frac_eq]
          have e1 : cutE (46 :: t) = (46 :: (cutE t).1, (cutE t).2) := by simp [cutE, isE_46]
          have e2 : cutD (46 :: (cutE t).1) = ([], some (cutE t).1) := by simp [cutD]
          rw [e1]
          simp only [e2, List.append_nil, nmI, hok, h1]
          cases badF (some (cutE t).1) <;> cases badX (cutE t).2 <;> simp
        · by_cases hE : isE c = true
          · have e1 : cutE (c :: t) = ([], some t) := by simp [cutE, hE]
            have hf : nfF (c :: t) = nfE (c :: t) := by simp [nfF, frac, hdot]
            rw [e1, hf, nfE_e c t hE]
            simp only [cutD, List.append_nil, nmI, hok, h1, badF]
            cases badX (some t) <;> simp
          · have hE2 : isE c = false := by simpa using hE
            have hf : nfF (c :: t) = nfE (c :: t) := by simp [nfF, frac, hdot]
            rw [hf, nfE_other c t hE2]
            have e1 : (cutD (cutE (c :: t)).1).1 = c :: (cutD (cutE t).1).1 := by simp [cutE, hE2, cutD, hdot]
            rw [e1]
            unfold nmI
            rw [if_pos (allD_bad d c _ hc)]
theorem nf_eq (zs : List Int) : nf zs = nm zs := nfS_eq _

/-! ### the minus sign -/
theorem nf_minus_minus (t : List Int) : nf (45 :: 45 :: t) = (false, false) := by
  have e : sgn (45 :: 45 :: t) = 45 :: t := by simp [sgn]
  unfold nf
  rw [e]
  have : bad (45 :: t) = true := by
    have hd : digs (45 :: t) = 0 := by simp [digs, isD]
    simp [bad, hd]
  simp [nfS, this]
theorem nf_minus (zs : List Int) (h : sgn zs = zs) : nf (45 :: zs) = nf zs := by
  unfold nf
  rw [h]; simp [sgn]
theorem sgn_not (zs : List Int) (h : ¬ (0 < zs.length ∧ zs.getD 0 0 = 45)) : sgn zs = zs := by
  cases zs with
  | nil => rfl
  | cons c t =>
    have : ¬ c = 45 := fun e => h ⟨by simp, by simpa using e⟩
    simp [sgn, this]
def plain (zs : List Int) : Bool := allD (sgn zs) && (decide ((sgn zs).length = 1) || !decide ((sgn zs).getD 0 0 = 48))
theorem nf_plain (zs : List Int) (h : plain zs = true) : nf zs = (true, true) := by
  unfold plain at h
  unfold nf nfS
  generalize sgn zs = s at *
  simp only [Bool.and_eq_true, Bool.or_eq_true, decide_eq_true_eq, Bool.not_eq_true', decide_eq_false_iff_not] at h
  obtain ⟨h1, h2⟩ := h
  obtain ⟨a1, a2⟩ := (allD_iff s).1 h1
  have hl : digs s = s.length := by
    have := digs_le s
    have h3 : s.length - digs s = 0 := by simpa using congrArg List.length a2
    omega
  have hb : bad s = false := by
    simp only [bad, decide_eq_false_iff_not]
    rintro (h | ⟨h3, h4⟩)
    · exact a1 h
    · rcases h2 with h2 | h2
      · omega
      · exact h2 h4
  rw [hb, if_neg (by simp), if_pos a2]
end Go.Proofs.Qxb6617207a.D
