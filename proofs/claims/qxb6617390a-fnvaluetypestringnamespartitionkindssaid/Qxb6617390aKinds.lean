import Derived.Test.Qxb6617390aRows
import Derived.WalkKit
import Derived.ProofKit
import Derived.OpenShut
import Derived.ShutString
import Derived.WalkSpells
namespace Go.Proofs.Qxb6617390a
open Go.RowKit
set_option linter.unusedVariables false

/-- the known kind itself; 0 for every other value -/
def cls (k : Int) : Int := if 1 ≤ k ∧ k ≤ 6 then k else 0
theorem cls_range (k : Int) : 0 ≤ cls k ∧ cls k ≤ 6 := by unfold cls; split <;> omega
theorem cls_in {k : Int} (h1 : 1 ≤ k) (h2 : k ≤ 6) : cls k = k := by unfold cls; rw [if_pos ⟨h1, h2⟩]
theorem cls_out {k : Int} (h : ¬ (1 ≤ k ∧ k ≤ 6)) : cls k = 0 := by unfold cls; rw [if_neg h]

/-- the name of each kind that is told apart, in bytes: 0 stands for every kind that is not known -/
def names : List (List UInt8) := [[97, 32, 118, 97, 108, 117, 101, 32, 111, 102, 32, 97, 110, 121, 32, 107, 105, 110, 100], [97, 32, 98, 111, 111, 108], [97, 110, 32, 105, 110, 116],
  [97, 32, 115, 116, 114, 105, 110, 103], [110, 117, 108, 108], [97, 32, 108, 105, 115, 116], [97, 32, 112, 97, 114, 101, 110, 116, 39, 115, 32, 101, 110, 116, 114, 121]]
def name (c : Int) : ByteArray := ⟨(names.getD c.toNat []).toArray⟩

theorem seven {c : Int} (h0 : 0 ≤ c) (h6 : c ≤ 6) : c = 0 ∨ c = 1 ∨ c = 2 ∨ c = 3 ∨ c = 4 ∨ c = 5 ∨ c = 6 := by omega
theorem names_inj : ∀ i j : Fin 7, i ≠ j → names.getD i.val [] ≠ names.getD j.val [] := by decide +kernel
theorem name_ne {c d : Int} (hc : 0 ≤ c ∧ c ≤ 6) (hd : 0 ≤ d ∧ d ≤ 6) (h : c ≠ d) : (name c).data.toList ≠ (name d).data.toList := by
  have := names_inj ⟨c.toNat, by omega⟩ ⟨d.toNat, by omega⟩ (by simp; omega)
  simpa [name] using this

set_option maxHeartbeats 800000 in
theorem string_any (k : Int) (w : World) :
    Calls Try.prog 11 #[.int .i64 k] w fun e w' => ∃ cs : Array Value, e = .returned (.string (name (cls k))) ∧ w.alloc (.cells cs 33) = w' := by
  by_cases h : 1 ≤ k ∧ k ≤ 6
  · rcases seven (c := k) (by omega) (by omega) with rfl | rfl | rfl | rfl | rfl | rfl | rfl
    · omega
    all_goals
      go_enter Try.func11, Try.ntmps11
      go_wp2
      go_ret
      exact ⟨_, rfl, rfl⟩
  · have h1 : (k == 1) = false := by simp; omega
    have h2 : (k == 2) = false := by simp; omega
    have h3 : (k == 3) = false := by simp; omega
    have h4 : (k == 4) = false := by simp; omega
    have h5 : (k == 5) = false := by simp; omega
    have h6 : (k == 6) = false := by simp; omega
    have HC : Hid (cls k = 0) := cls_out h
    clear h
    go_enter Try.func11, Try.ntmps11
    go_wp2
    go_ret
    rw [HC.out]
    exact ⟨_, rfl, rfl⟩

set_option maxHeartbeats 400000 in
theorem class_any (k : Int) (w : World) : Calls Try.prog 12 #[.int .i64 k] w fun e w' => e = .returned (.int .i64 (cls k)) ∧ w = w' := by
  by_cases h1 : 1 ≤ k
  · by_cases h6 : k ≤ 6
    · have HC : Hid (cls k = k) := cls_in h1 h6
      go_enter Try.func12, Try.ntmps12
      go_wp2
      go_ret
      rw [HC.out]
      exact ⟨rfl, rfl⟩
    · have HC : Hid (cls k = 0) := cls_out (by omega)
      go_enter Try.func12, Try.ntmps12
      go_wp2
      go_ret
      rw [HC.out]
      exact ⟨rfl, rfl⟩
  · have HC : Hid (cls k = 0) := cls_out (by omega)
    go_enter Try.func12, Try.ntmps12
    go_wp2
    go_ret
    rw [HC.out]
    exact ⟨rfl, rfl⟩

theorem not_null {s : ByteArray} (h : s.size ≠ 4) : (s.toList == [110, 117, 108, 108]) = false := by
  rw [beq_eq_false_iff_ne]
  intro e
  rw [ByteArray.toList_eq] at e
  have := congrArg List.length e
  simp at this
  exact h this

set_option maxHeartbeats 400000 in
/-- 'a' and a noun that opens with a consonant -/
theorem formed_a (s : ByteArray) (z : Int) (w : World) (hs : 5 ≤ s.size) (hl : s.size ≤ 100) (h0 : ((s[0]'(by omega)).toNat : Int) = 97) (h1 : ((s[1]'(by omega)).toNat : Int) = 32) (h2 : ((s[2]'(by omega)).toNat : Int) = z)
    (hz1 : 97 ≤ z) (hz2 : z ≤ 122) (ha : (z == 97) = false) (he : (z == 101) = false) (hi : (z == 105) = false) (ho : (z == 111) = false) (hu : (z == 117) = false) :
    Calls Try.prog 13 #[.string s] w fun e w' => e = .returned (.bool true) ∧ w = w' := by
  have hn := not_null (s := s) (by omega)
  go_enter Try.func13, Try.ntmps13
  go_wp2
  go_ret
  exact ⟨rfl, rfl⟩

set_option maxHeartbeats 400000 in
/-- 'an' and a noun that opens with a vowel -/
theorem formed_an (s : ByteArray) (w : World) (hs : 5 ≤ s.size) (hl : s.size ≤ 100) (h0 : ((s[0]'(by omega)).toNat : Int) = 97) (h1 : ((s[1]'(by omega)).toNat : Int) = 110) (h2 : ((s[2]'(by omega)).toNat : Int) = 32)
    (h3 : ((s[3]'(by omega)).toNat : Int) = 105) : Calls Try.prog 13 #[.string s] w fun e w' => e = .returned (.bool true) ∧ w = w' := by
  have hn := not_null (s := s) (by omega)
  go_enter Try.func13, Try.ntmps13
  go_wp2
  go_ret
  exact ⟨rfl, rfl⟩

set_option maxHeartbeats 400000 in
theorem formed_null (s : ByteArray) (w : World) (hs : (s.toList == [110, 117, 108, 108]) = true) : Calls Try.prog 13 #[.string s] w fun e w' => e = .returned (.bool true) ∧ w = w' := by
  go_enter Try.func13, Try.ntmps13
  go_wp2
  go_ret
  exact ⟨rfl, rfl⟩

theorem formed_any (c : Int) (h0 : 0 ≤ c) (h6 : c ≤ 6) (w : World) : Calls Try.prog 13 #[.string (name c)] w fun e w' => e = .returned (.bool true) ∧ w = w' := by
  rcases seven h0 h6 with rfl | rfl | rfl | rfl | rfl | rfl | rfl
  · exact formed_a (name 0) 118 w (by decide) (by decide) (by decide) (by decide) (by decide) (by decide) (by decide) rfl rfl rfl rfl rfl
  · exact formed_a (name 1) 98 w (by decide) (by decide) (by decide) (by decide) (by decide) (by decide) (by decide) rfl rfl rfl rfl rfl
  · exact formed_an (name 2) w (by decide) (by decide) (by decide) (by decide) (by decide) (by decide)
  · exact formed_a (name 3) 115 w (by decide) (by decide) (by decide) (by decide) (by decide) (by decide) (by decide) rfl rfl rfl rfl rfl
  · exact formed_null (name 4) w (by rw [ByteArray.toList_eq]; decide)
  · exact formed_a (name 5) 108 w (by decide) (by decide) (by decide) (by decide) (by decide) (by decide) (by decide) rfl rfl rfl rfl rfl
  · exact formed_a (name 6) 112 w (by decide) (by decide) (by decide) (by decide) (by decide) (by decide) (by decide) rfl rfl rfl rfl rfl

set_option maxHeartbeats 1600000 in
theorem kinds_walk (k1 k2 : Int) (w : World) : Calls Try.prog 5 #[.int .i64 k1, .int .i64 k2] w fun e w' => e = .returned (.bool true) ∧ Grown w w' := by
  have hc1 := cls_range k1
  have hc2 := cls_range k2
  have HC0 : Hid (cls 0 = 0) := rfl
  go_enter Try.func5, Try.ntmps5
  go_wp2_with fail
  refine (string_any k1 w).mono ?_
  rintro e w1 ⟨o1, rfl, rfl⟩
  go_wp2_with fail
  refine (string_any k2 _).mono ?_
  rintro e w2 ⟨o2, rfl, rfl⟩
  go_wp2_with fail
  refine (string_any 0 _).mono ?_
  rintro e w3 ⟨o3, rfl, rfl⟩
  go_wp2_with fail
  refine (class_any k1 _).mono ?_
  rintro e w4 ⟨rfl, rfl⟩
  go_wp2_with fail
  refine (class_any k2 _).mono ?_
  rintro e w5 ⟨rfl, rfl⟩
  rw [HC0.out]
  generalize cls k1 = c1 at *
  generalize cls k2 = c2 at *
  have HG : Hid (Grown w (((w.alloc (.cells o1 33)).alloc (.cells o2 33)).alloc (.cells o3 33))) := (((Grown.refl w).alloc o1 33).alloc o2 33).alloc o3 33
  generalize ((w.alloc (.cells o1 33)).alloc (.cells o2 33)).alloc (.cells o3 33) = w6 at *
  by_cases he : c1 = c2
  · subst he
    by_cases hz : c1 = 0
    · subst hz
      go_wp2_with fail
      refine (formed_any 0 (by omega) (by omega) _).mono ?_
      rintro e w7 ⟨rfl, rfl⟩
      go_wp2_with fail
      refine (formed_any 0 (by omega) (by omega) _).mono ?_
      rintro e w7 ⟨rfl, rfl⟩
      go_wp2
      go_ret
      exact ⟨rfl, HG.out⟩
    · have hzb : (c1 == 0) = false := by simpa using hz
      go_wp2_with fail
      refine (formed_any c1 hc1.1 hc1.2 _).mono ?_
      rintro e w7 ⟨rfl, rfl⟩
      go_wp2_with fail
      refine (formed_any c1 hc1.1 hc1.2 _).mono ?_
      rintro e w7 ⟨rfl, rfl⟩
      go_wp2
      go_ret
      exact ⟨rfl, HG.out⟩
  · have heb : (c1 == c2) = false := by simpa using he
    have hsb : ((name c1).toList == (name c2).toList) = false := by
      rw [beq_eq_false_iff_ne, ByteArray.toList_eq, ByteArray.toList_eq]
      exact name_ne hc1 hc2 he
    by_cases hz1 : c1 = 0
    · subst hz1
      have hz2b : (c2 == 0) = false := by simp; omega
      clear he
      go_wp2_with fail
      refine (formed_any 0 (by omega) (by omega) _).mono ?_
      rintro e w7 ⟨rfl, rfl⟩
      go_wp2_with fail
      refine (formed_any c2 hc2.1 hc2.2 _).mono ?_
      rintro e w7 ⟨rfl, rfl⟩
      go_wp2
      go_ret
      exact ⟨rfl, HG.out⟩
    · have hz1b : (c1 == 0) = false := by simpa using hz1
      by_cases hz2 : c2 = 0
      · subst hz2
        clear he
        go_wp2_with fail
        refine (formed_any c1 hc1.1 hc1.2 _).mono ?_
        rintro e w7 ⟨rfl, rfl⟩
        go_wp2_with fail
        refine (formed_any 0 (by omega) (by omega) _).mono ?_
        rintro e w7 ⟨rfl, rfl⟩
        go_wp2
        go_ret
        exact ⟨rfl, HG.out⟩
      · have hz2b : (c2 == 0) = false := by simpa using hz2
        clear he
        go_wp2_with fail
        refine (formed_any c1 hc1.1 hc1.2 _).mono ?_
        rintro e w7 ⟨rfl, rfl⟩
        go_wp2_with fail
        refine (formed_any c2 hc2.1 hc2.2 _).mono ?_
        rintro e w7 ⟨rfl, rfl⟩
        go_wp2
        go_ret
        exact ⟨rfl, HG.out⟩
end Go.Proofs.Qxb6617390a
