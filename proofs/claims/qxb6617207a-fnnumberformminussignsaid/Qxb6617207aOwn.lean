/-
  A ROW OF INTEGERS THAT THE CALL ITSELF MADE: 'Own e k w B g cap xs': the slice at the head of block g (B ≤ g), its length that of xs, its capacity 'cap', holds the numbers xs. What a load, a store, an append and a make do to it.
-/
import Derived.WalkKit
import Derived.Laws.BytesArg
import Derived.Laws.CopyOwn
namespace Go.Proofs.Qxb6617207a
open Go.RowKit

def Own (e : TypeId) (k : IntKind) (w : World) (B g cap : Nat) (xs : List Int) : Prop :=
  w.ownsRow B e 1 (.slice (some ⟨g, 0, none⟩) xs.length cap) xs.length (xs.map (Value.int k))

section
variable {e : TypeId} {k : IntKind} {w : World} {B g cap : Nat} {xs : List Int}

theorem Own.parts (h : Own e k w B g cap xs) : B ≤ g ∧ g < w.heap.size ∧ xs.length ≤ cap ∧ cap ≤ maxLen := by
  rcases h.2 with ⟨h', _⟩ | ⟨g', cap', cur, h', hb, hg, hnc, hcm, hcs, htake⟩
  · simp at h'
  · simp only [Value.slice.injEq, Option.some.injEq, Addr.mk.injEq, and_true, true_and] at h'
    obtain ⟨rfl, rfl⟩ := h'
    exact ⟨hb, (Array.getElem?_eq_some_iff.1 hg).1, hnc, hcm⟩

theorem Own.cell (h : Own e k w B g cap xs) {j : Nat} (hj : j < xs.length) : w.cell? ⟨g, j, none⟩ = some (.int k (xs.getD j 0)) := by
  rw [World.ownsRow.cellAt h j (by omega)]
  simp [List.getElem?_eq_getElem hj]

theorem Own.frz (h : Own e k w B g cap xs) (j : Nat) : w.frozen? ⟨g, j, none⟩ = false := World.ownsRow.frozenAt h j

theorem Own.set (h : Own e k w B g cap xs) (j : Nat) (x : Int) : Own e k (w.setCell ⟨g, j, none⟩ (.int k x)) B g cap (xs.set j x) := by
  have := (World.ownsRow.stored h j (.int k x)).1
  unfold Own
  rw [List.length_set, List.map_set]
  exact this

theorem Own.other (h : Own e k w B g cap xs) {g' j : Nat} {u : Value} (hne : g ≠ g') : Own e k (w.setCell ⟨g', j, none⟩ u) B g cap xs := by
  refine World.ownsRow.kept (row := some g') h ?_ (.inr (by simpa [Value.ownBlock] using hne))
  exact ⟨rfl, rfl, rfl, by simp, fun i _ hk => heap_setCell_other w ⟨g', j, none⟩ i u (fun e => hk (by simp [e]))⟩

theorem Own.kept {w' : World} {row : Option Nat} (h : Own e k w B g cap xs) (hg : w.grownBy w' row) (hne : some g ≠ row) : Own e k w' B g cap xs :=
  World.ownsRow.kept h hg (.inr (by simpa [Value.ownBlock] using hne))

theorem Own.below {w0 : World} {B0 : Nat} (h : Own e k w B g cap xs) (hb : Below B0 w0 w) (hB : B0 ≤ B) (j : Nat) (u : Value) : Below B0 w0 (w.setCell ⟨g, j, none⟩ u) :=
  hb.setCell (p := ⟨g, j, none⟩) (by have := h.parts.1; simp only; omega) u

theorem Own.made {n : Nat} (h : w.ownsRow B e 1 (.slice (some ⟨g, 0, none⟩) 0 n) 0 []) : Own e k w B g n [] := h

theorem madeCells_ints (k : IntKind) : ∀ n : Nat, (madeCells (Value.int k 0).cells n).toList = (List.replicate n (0 : Int)).map (Value.int k) := by
  intro n
  apply List.ext_getElem?
  intro i
  simp only [madeCells, Value.cells, Array.toList_map, Array.toList_range, List.getElem?_map, List.map_replicate, List.getElem?_replicate]
  by_cases h : i < n
  · simp [h, Nat.mod_one]
  · rw [List.getElem?_eq_none (by simpa using h)]; simp [h]

theorem Own.full {n : Nat} (h : w.ownsRow B e 1 (.slice (some ⟨g, 0, none⟩) n n) n (madeCells (Value.int k 0).cells (n * 1)).toList) : Own e k w B g n (List.replicate n 0) := by
  rw [Nat.mul_one, madeCells_ints] at h
  unfold Own
  rw [List.length_replicate]
  exact h

theorem Own.app {v : Value} {x : Int} (h : w.ownsRow B e 1 v (xs.length + 1) (xs.map (Value.int k) ++ [.int k x])) :
    ∃ g' cap', v = .slice (some ⟨g', 0, none⟩) (xs.length + 1) cap' ∧ Own e k w B g' cap' (xs ++ [x]) := by
  rcases h.2 with ⟨_, h'⟩ | ⟨g', cap', cur, h', hb, hg, hnc, hcm, hcs, htake⟩
  · omega
  · refine ⟨g', cap', h', ?_⟩
    subst h'
    unfold Own
    rw [List.length_append, List.length_singleton, List.map_append]
    exact h

theorem Own.spell (h : Own e k w B g cap xs) : w.ownsRow B e 1 (.slice (some ⟨g, 0, none⟩) xs.length cap) xs.length (xs.map (Value.int k)) := h

/-- the whole block -/
theorem Own.block (h : Own e k w B g cap xs) (hc : xs.length = cap) : w.heap[g]? = some (.cells ((xs.map (Value.int k))).toArray e (0, 0)) := by
  rcases h.2 with ⟨h', _⟩ | ⟨g', cap', cur, h', hb, hg, hnc, hcm, hcs, htake⟩
  · simp at h'
  · simp only [Value.slice.injEq, Option.some.injEq, Addr.mk.injEq, and_true, true_and] at h'
    obtain ⟨rfl, rfl⟩ := h'
    rw [hg, ← htake, List.take_of_length_le (by simp; omega)]

theorem Own.ofBlock (hb : B ≤ g) (hm : xs.length ≤ maxLen) (h : w.heap[g]? = some (.cells ((xs.map (Value.int k))).toArray e (0, 0))) : Own e k w B g xs.length xs :=
  ⟨by simp, .inr ⟨g, xs.length, _, rfl, hb, h, Nat.le_refl _, hm, by simp, List.take_of_length_le (by simp)⟩⟩
end

theorem strOfNums_inj {xs ys : List Int} (h : xs = ys) : strOfNums xs = strOfNums ys := by rw [h]
theorem ret_str {a b : ByteArray} (h : a = b) : Ending.returned (.string a) = .returned (.string b) := by rw [h]
end Go.Proofs.Qxb6617207a
