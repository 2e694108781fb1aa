import Derived.Test.Qxb6617207aNew
namespace Go.Proofs.Qxb6617207a
open Go.RowKit
set_option linter.unusedVariables false

set_option maxHeartbeats 800000 in
theorem parts_any (a : Option Addr) (b off len cap : Nat) (zs : List Int) (fold : Bool) (w : World) (hb : 0 < len → b < w.heap.size) (hl : len ≤ 1048576) (hz : zs.length = len)
    (ha : 0 < len → a = some ⟨b, off, none⟩)
    (hc : ∀ j, j < len → w.cell? ⟨b, off + j, none⟩ = some (.int .u8 (zs.getD j 0))) :
    Calls Try.prog 13 #[.slice a len cap, .bool fold] w fun e w' => ∃ v, e = .returned (.tuple #[v, .bool fold]) ∧
      Pt w' (w.heap.size + 2) v (P.cols (P.runes (strOfNums zs) (strOfNums zs).size 0)) ∧ Below w.heap.size w w' := by
  have HB : Hid (0 < len → b < w.heap.size) := hb
  have HA : Hid (0 < len → a = some ⟨b, off, none⟩) := ha
  have HC : Hid (∀ j, j < len → w.cell? ⟨b, off + j, none⟩ = some (.int .u8 (zs.getD j 0))) := hc
  have HZ : Hid (zs.length = len) := hz
  clear ha hb hc hz
  go_enter Try.func13, Try.ntmps13
  go_wp2_with fail
  refine (new_any a b off len cap zs fold w HB.out hl HZ.out HA.out HC.out).mono ?_
  rintro e w1 ⟨rfl, v, hA, hP, hB⟩
  have h0 := hA.cell0
  have h1 := hA.cell1
  generalize hCe : P.cols (P.runes (strOfNums zs) (strOfNums zs).size 0) = C at *
  have HCE : Hid (P.cols (P.runes (strOfNums zs) (strOfNums zs).size 0) = C) := hCe
  clear hCe
  rcases hP with ⟨hC, rfl⟩ | ⟨g, cp, rfl, O⟩
  · go_wp2_with fail
    go_quiet (fail)
    go_wp2
    go_ret2
    rw [HCE.out]
    exact ⟨_, rfl, .inl ⟨hC, rfl⟩, below_drewN hB _⟩
  · go_wp2_with fail
    go_quiet (fail)
    go_wp2
    go_ret2
    rw [HCE.out]
    exact ⟨_, rfl, .inr ⟨g, cp, rfl, O⟩, below_drewN hB _⟩
end Go.Proofs.Qxb6617207a
