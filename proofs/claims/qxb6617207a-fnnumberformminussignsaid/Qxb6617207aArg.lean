import Derived.Test.Qxb6617207aRows
import Derived.Test.Qxb6617207aOwn
import Derived.ProofKit
import Derived.OpenShut
import Derived.ShutString
import Derived.ChangeOld
import Derived.WalkSmall
import Derived.WalkSpells
import Derived.Deep.LoopGhost
import Derived.Deep.CutBlock
import Derived.Deep.DeepCutAuto
import Derived.Deep.QuietTactic
import Derived.BigQuiet
namespace Go.Proofs.Qxb6617207a
open Go.RowKit

theorem Try.info5 : (Try.prog.info? 5).map (fun i => (i.zero, i.size, i.bytes)) = some (some (.int .u8 0), 1, 1) := by kernel_rfl
theorem Try.info21 : (Try.prog.info? 21).map (fun i => (i.zero, i.size, i.bytes)) = some (some (.int .i32 0), 1, 4) := by kernel_rfl


/-- the argument as the walk is told of it: nil, or a row that lies there -/
def Arg (w : World) (a : Option Addr) (len cap : Nat) (zs : List Int) : Prop :=
  zs.length = len ∧ len ≤ cap ∧ (a = none → len = 0 ∧ cap = 0) ∧ (∀ x, a = some x → ∀ j, j < len → w.cell? (x.add j) = some (.int .u8 (zs.getD j 0))) ∧ ∀ j, 0 ≤ zs.getD j 0 ∧ zs.getD j 0 ≤ 255

theorem arg_nil (w : World) : Arg w none 0 0 (([] : List Int).take 0) :=
  ⟨rfl, Nat.le_refl _, fun _ => ⟨rfl, rfl⟩, fun x h => (by cases h), fun j => by simp⟩
theorem arg_some {w : World} {x : Addr} {len cap : Nat} {zs : List Int} (hl : len ≤ cap) (hz : zs.length = cap) (hcell : ∀ i, i < zs.length → w.cell? (x.add i) = some (.int .u8 (zs.getD i 0))) (hwz : ∀ n ∈ zs, (Lit.int .u8 n).wf = true) :
    Arg w (some x) len cap (zs.take len) := by
  refine ⟨by simp; omega, hl, fun h => (by cases h), ?_, ?_⟩
  · intro y hy j hj
    obtain rfl : x = y := by simpa using hy
    rw [hcell j (by omega)]
    simp [List.getD, hj]
  · intro j
    by_cases hj : j < len
    · have := range_u8 hwz j
      simp [List.getD, hj]
      exact this
    · simp [List.getD, List.getElem?_take, hj]

/-- behind 'if b != nil { zzc := make(..); copy(zzc, b); b = zzc }': v1 holds zs, in memory that is not the caller's -/
def Copied (w wc : World) (v1 : Value) (zs : List Int) : Prop :=
  Below w.heap.size w wc ∧ ∃ a b off cap, v1 = .slice a zs.length cap ∧ zs.length ≤ cap ∧ (a = none → cap = 0) ∧ (0 < zs.length → a = some ⟨b, off, none⟩) ∧ (0 < zs.length → b < wc.heap.size) ∧
    ∀ j, j < zs.length → wc.cell? ⟨b, off + j, none⟩ = some (.int .u8 (zs.getD j 0))
theorem copied_nil {w : World} {zs : List Int} (h : zs = []) : Copied w w (.slice none 0 0) zs := by
  subst h
  exact ⟨Below.refl _ _, none, 0, 0, 0, rfl, Nat.le_refl _, fun _ => rfl, fun h => absurd h (by simp), fun h => absurd h (by simp), fun j hj => absurd hj (by simp)⟩
theorem copied_made {w w2 : World} {zs : List Int} {g : Nat} (hm : zs.length ≤ maxLen) (hB : Below w.heap.size w w2) (hg : w.heap.size ≤ g) (h : w2.heap[g]? = some (.cells (splice ((List.replicate zs.length (0 : Int)).map (Value.int .u8)) 0 (zs.map (Value.int .u8))).toArray 5 (0, 0))) :
    Copied w w2 (.slice (some ⟨g, 0, none⟩) zs.length zs.length) zs := by
  have e : splice ((List.replicate zs.length (0 : Int)).map (Value.int .u8)) 0 (zs.map (Value.int .u8)) = zs.map (Value.int .u8) := by simp [splice]
  rw [e] at h
  have O : Own 5 .u8 w2 w.heap.size g zs.length zs := Own.ofBlock hg hm h
  exact ⟨hB, _, g, 0, _, rfl, Nat.le_refl _, fun h => (by cases h), fun _ => rfl, fun _ => O.parts.2.1, fun j hj => by rw [Nat.zero_add]; exact O.cell hj⟩
theorem copy_block {w1 : World} {B g n : Nat} (h : w1.ownsRow B 5 1 (.slice (some ⟨g, 0, none⟩) n n) n (madeCells (Value.int .u8 0).cells (n * 1)).toList) :
    w1.heap[g]? = some (.cells ((List.replicate n (0 : Int)).map (Value.int .u8)).toArray 5 (0, 0)) := (Own.full h).block (by simp)
theorem copy_src {w w1 : World} {x : Addr} {zs : List Int} {len : Nat} {dp : Option Addr} {g : Nat} (h : ∀ y, some x = some y → ∀ j, j < len → w.cell? (y.add j) = some (.int .u8 (zs.getD j 0))) (hz : zs.length = len) (hg : w.grownBy w1 none) (hd : dp = some ⟨g, 0, none⟩) :
    0 < (zs.map (Value.int .u8)).length → dp = some ⟨g, 0, none⟩ ∧ ∃ ad, some x = some ad ∧ ∀ j v, (zs.map (Value.int .u8))[j]? = some v → w1.cell? (ad.add j) = some v := by
  intro _
  refine ⟨hd, x, rfl, fun j v hv => ?_⟩
  have hj : j < zs.length := by
    rcases Nat.lt_or_ge j zs.length with h | h
    · exact h
    · rw [List.getElem?_eq_none (by simpa using h)] at hv; cases hv
  have e : v = .int .u8 (zs.getD j 0) := by
    simp [List.getElem?_eq_getElem hj] at hv
    rw [← hv]; simp [hj]
  rw [e]
  exact hg.cell (h x rfl j (by omega)) (by simp)

theorem strOfNums_at' {xs : List Int} {s : ByteArray} {i : Nat} (hs : strOfNums xs = s) (h : i < s.size) : s[i]'h = UInt8.ofNat (xs.getD i 0).toNat := by
  subst hs
  have hi : i < xs.length := by rw [strOfNums_size] at h; exact h
  show (strOfNums xs).data[i] = _
  simp [strOfNums, hi]
theorem strOfNums_at {xs : List Int} {s : ByteArray} {i : Nat} (hs : strOfNums xs = s) (h : i < s.size) : ((s[i]'h).toNat : Int) = (UInt8.ofNat (xs.getD i 0).toNat).toNat := by
  rw [strOfNums_at' hs h]

end Go.Proofs.Qxb6617207a
