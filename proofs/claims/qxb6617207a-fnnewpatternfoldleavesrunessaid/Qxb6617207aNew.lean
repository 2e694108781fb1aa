import Derived.Test.Qxb6617207aArg
import Derived.Test.Qxb6617207aPat
namespace Go.Proofs.Qxb6617207a
open Go.RowKit
set_option linter.unusedVariables false

/-- string(b), b of length 0, wherever it points -/
theorem run_convert_empty {P : Program} (w : World) (src e dst : TypeId) (hs : P.underlying src = some (.slice e)) (he : P.underlying e = some (.int .u8)) (hd : P.underlying dst = some .string) (a : Option Addr) (c : Nat) :
    (convert src dst (.slice a 0 c)).run P w = .ok (.string (strOfNums [])) w := by
  cases a with
  | none => exact run_convert_bytes_nil w src e hs he 0 c dst hd
  | some x =>
    rw [run_convert_bytes_string w src dst e _ 0 c hs he hd, run_bytesToString w _ 0 c [] (by simp [loadCells, loadCellsFrom])]
    rfl

/-- the slice that holds the pattern's runes C, in memory from block B on -/
def Pt (w : World) (B : Nat) (v : Value) (C : List Int) : Prop :=
  (C = [] ∧ v = .slice none 0 0) ∨ ∃ g cap, v = .slice (some ⟨g, 0, none⟩) C.length cap ∧ Own 21 .i32 w B g cap C

theorem Pt.iterAt {w : World} {B : Nat} {v : Value} {C : List Int} (h : Pt w B v C) {k : Nat} (hk : k < B) (s : ByteArray) (p : Nat) : Pt (w.iterAt k s p) B v C := by
  rcases h with h | ⟨g, cap, h1, h2⟩
  · exact .inl h
  · exact .inr ⟨g, cap, h1, ownsRow_iterAt h2 hk s p⟩
theorem Pt.drewN {w : World} {B : Nat} {v : Value} {C : List Int} (h : Pt w B v C) (n : Nat) : Pt (w.drewN n) B v C := h

/-- the struct's block -/
def At (w : World) (B : Nat) (v : Value) (fold : Bool) : Prop := w.heap[B]? = some (.cells #[v, .bool fold] 33 (0, 0))
theorem At.cell0 {w : World} {B : Nat} {v : Value} {fold : Bool} (h : At w B v fold) : w.cell? ⟨B, 0, none⟩ = some v := by
  rw [cell_of_row w B 0 _ _ (0, 0) h]; rfl
theorem At.cell1 {w : World} {B : Nat} {v : Value} {fold : Bool} (h : At w B v fold) : w.cell? ⟨B, 1, none⟩ = some (.bool fold) := by
  rw [cell_of_row w B 1 _ _ (0, 0) h]; rfl
theorem At.frz {w : World} {B : Nat} {v : Value} {fold : Bool} (h : At w B v fold) (j : Nat) : w.frozen? ⟨B, j, none⟩ = false := frozen_of_row w B j _ _ h
theorem At.set {w : World} {B : Nat} {v : Value} {fold : Bool} (h : At w B v fold) (u : Value) : At (w.setCell ⟨B, 0, none⟩ u) B u fold := by
  have := heap_setCell_same w B 0 _ _ u h
  simpa [At] using this

theorem Pt.block {w : World} {B : Nat} {v : Value} {C : List Int} (h : Pt w B v C) : ∀ k, v.ownBlock = some k → B ≤ k := by
  intro k hk
  rcases h with ⟨_, rfl⟩ | ⟨g, cap, rfl, O⟩
  · simp [Value.ownBlock] at hk
  · simp [Value.ownBlock] at hk
    subst hk
    exact O.parts.1
theorem kept_block {w2 w3 : World} {o : Obj} {row : Option Nat} {k : Nat} (hg : (w2.alloc o).grownBy w3 row) (hk : k < w2.heap.size) (hne : row ≠ some k) : w3.heap[k]? = w2.heap[k]? :=
  (hg.block k (by simp; omega) hne.symm).trans (Below.heap_alloc w2 o k hk)

set_option maxHeartbeats 800000 in
theorem new_any (a : Option Addr) (b off len cap : Nat) (zs : List Int) (fold : Bool) (w : World) (hb : 0 < len → b < w.heap.size) (hl : len ≤ 1048576) (hz : zs.length = len)
    (ha : 0 < len → a = some ⟨b, off, none⟩)
    (hc : ∀ j, j < len → w.cell? ⟨b, off + j, none⟩ = some (.int .u8 (zs.getD j 0))) :
    Calls Try.prog 17 #[.slice a len cap, .bool fold] w fun e w' => e = .returned (.pointer (some ⟨w.heap.size, 0, none⟩)) ∧
      ∃ v, At w' w.heap.size v fold ∧ Pt w' (w.heap.size + 2) v (P.cols (P.runes (strOfNums zs) (strOfNums zs).size 0)) ∧ Below w.heap.size w w' := by
  obtain ⟨i0, hi, hz0, hz1, hz2⟩ := info_parts Try.info21
  have hconv : ∀ o : Obj, (convert 22 9 (.slice a len cap)).run Try.prog (w.alloc o) = .ok (.string (strOfNums zs)) (w.alloc o) := by
    intro o
    by_cases h0 : 0 < len
    · rw [ha h0]
      refine run_convert_bytes_arg (P := Try.prog) (w.alloc o) 22 5 Try.underlying22 Try.underlying5 b off len cap zs hz (fun i hi => ?_) 9 Try.underlying9
      rw [← hc i hi]
      exact World.cell?_of_block (Below.heap_alloc w o b (hb h0))
    · obtain rfl : len = 0 := by omega
      rw [List.eq_nil_of_length_eq_zero hz]
      exact run_convert_empty _ 22 5 9 Try.underlying22 Try.underlying5 Try.underlying9 a cap
  have hsl : (strOfNums zs).size ≤ 1048576 := by rw [strOfNums_size]; omega
  generalize strOfNums zs = s at hconv hsl ⊢
  clear hc ha hb hz
  go_enter Try.func17, Try.ntmps17
  go_wp2_with fail
  clear hconv
  have HA0 : At ((w.alloc (Obj.cells #[Value.slice none 0 0, Value.bool fold] 33)).iter s 0) w.heap.size (.slice none 0 0) fold := by
    show ((w.heap.push _).push _)[w.heap.size]? = _
    simp [Array.getElem?_push]
  have HI0 : Hid (((w.alloc (Obj.cells #[Value.slice none 0 0, Value.bool fold] 33)).iter s 0).heap[w.heap.size + 1]? = some (.stringIter s 0)) := by
    show ((w.heap.push _).push _)[w.heap.size + 1]? = _
    rw [Array.getElem?_push, if_pos (by simp)]
  have HB0 : Below w.heap.size w ((w.alloc (Obj.cells #[Value.slice none 0 0, Value.bool fold] 33)).iter s 0) := ((Below.refl _ _).alloc (Nat.le_refl _) _).alloc (by simp) _
  have HS0 : w.heap.size + 2 ≤ ((w.alloc (Obj.cells #[Value.slice none 0 0, Value.bool fold] 33)).iter s 0).heap.size := by
    show _ ≤ ((w.heap.push _).push _).size
    simp
  generalize (w.alloc (Obj.cells #[Value.slice none 0 0, Value.bool fold] 33)).iter s 0 = w0 at HA0 HI0 HB0 HS0 ⊢
  go_loopg [] s.size (fun f wr => ∃ (pos : Nat) (done : List Int) (v : Value), At wr w.heap.size v fold ∧ Hid (wr.heap[w.heap.size + 1]? = some (.stringIter s pos)) ∧ Pt wr (w.heap.size + 2) v (P.cols done) ∧
    Hid (P.runes s s.size 0 = done ++ P.runes s f pos) ∧ s.size ≤ pos + f ∧ Below w.heap.size w wr ∧ w.heap.size + 2 ≤ wr.heap.size ∧ done.length + f ≤ s.size)
  case atStart => exact ⟨0, [], _, HA0, HI0, .inl ⟨rfl, rfl⟩, rfl, by omega, HB0, HS0, by simp⟩
  case round =>
    clear HA0 HI0 HB0 HS0
    obtain ⟨pos, done, v, hA, HI, hP, HR, hf, hB, hS, hd⟩ := hrel
    by_cases hlt : pos < s.size
    · obtain ⟨f, rfl⟩ : ∃ f, gk = f + 1 := ⟨gk - 1, by omega⟩
      have hn := fun ty => Lib.run_next_any_at (P := Try.prog) wr (w.heap.size + 1) s pos ty HI.out hlt
      have hdec := P.decode_pct s pos hlt
      have hA1 : At (wr.iterAt (w.heap.size + 1) s (pos + (Utf8.decode s pos).2)) w.heap.size v fold := (Lib.iterAt_other wr _ _ s _ (by omega)).trans hA
      have HI1 : Hid ((wr.iterAt (w.heap.size + 1) s (pos + (Utf8.decode s pos).2)).heap[w.heap.size + 1]? = some (.stringIter s (pos + (Utf8.decode s pos).2))) := Lib.iterAt_heap wr _ s pos _ HI.out
      have hP1 := hP.iterAt (show w.heap.size + 1 < w.heap.size + 2 by omega) s (pos + (Utf8.decode s pos).2)
      have hB1 : Below w.heap.size w (wr.iterAt (w.heap.size + 1) s (pos + (Utf8.decode s pos).2)) := Lib.below_iterAt hB (by omega) s _
      have hS1 : w.heap.size + 2 ≤ (wr.iterAt (w.heap.size + 1) s (pos + (Utf8.decode s pos).2)).heap.size := by rw [Lib.iterAt_size]; exact hS
      have HR1 : Hid (P.runes s s.size 0 = (done ++ [((Utf8.decode s pos).1 : Int)]) ++ P.runes s f (pos + (Utf8.decode s pos).2)) := by
        show _ = _
        rw [HR.out]
        simp [P.runes, hlt]
      have hwid := hdec.1
      clear hdec hA HI hP hB hS HR
      generalize wr.iterAt (w.heap.size + 1) s (pos + (Utf8.decode s pos).2) = w1 at *
      generalize (Utf8.decode s pos).2 = n at *
      generalize ((Utf8.decode s pos).1 : Int) = r at *
      have hcell := hA1.cell0
      have hCl : (P.cols done).length ≤ 1048576 := by
        have := P.cols_length done done.length (Nat.le_refl _)
        rw [List.take_of_length_le (Nat.le_refl _)] at this
        omega
      go_upto_region 5 with fail
      clear hn
      go_cut [41] from 17 to 41 (fun c wx => c = .bool (decide (r = 37 ∧ 0 < (P.cols done).length ∧ (P.cols done).getD ((P.cols done).length - 1) 0 = 37)) ∧ ∃ nq, wx = w1.drewN nq)
      case first =>
        by_cases hr37 : r = 37
        · subst hr37
          rcases hP1 with ⟨hC, rfl⟩ | ⟨g, cp, rfl, O⟩
          · go_quiet (fail)
            go_wp2
            go_meet
            exact ⟨by rw [hC]; rfl, _, rfl⟩
          · generalize hCe : P.cols done = C at *
            have HCE : Hid (P.cols done = C) := hCe
            clear hCe
            by_cases hC0 : 0 < C.length
            · have hcl := O.cell (j := C.length - 1) (by omega)
              have hi1 : (0 : Int) < (C.length : Int) := by omega
              have hw1 : IntKind.i64.wrap ((C.length : Int) - 1) = (C.length : Int) - 1 := by rw [IntKind.wrap_i64]; omega
              have ht1 : ((C.length : Int) - 1).toNat = C.length - 1 := by omega
              have hd1 : decide ((0 : Int) < (C.length : Int)) = true := by simpa using hi1
              obtain ⟨z, hz⟩ : ∃ z, z = C.getD (C.length - 1) 0 := ⟨_, rfl⟩
              rw [← hz] at hcl
              have HZ : Hid (z = C.getD (C.length - 1) 0) := hz
              clear hz
              go_quiet (fail)
              go_wp2
              go_meet
              refine ⟨congrArg Value.bool ?_, _, rfl⟩
              rw [← HZ.out]
              by_cases h : z = 37 <;> simp [h, hC0]
            · have hd1 : decide ((0 : Int) < (C.length : Int)) = false := decide_eq_false (by omega)
              go_quiet (fail)
              go_wp2
              go_meet
              exact ⟨congrArg Value.bool (by simp [hC0]), _, rfl⟩
        · have hrb : (r == 37) = false := by simpa using hr37
          go_quiet (fail)
          go_wp2
          go_meet
          exact ⟨by simp [hr37], _, rfl⟩
      case rest =>
        obtain ⟨rfl, nq, rfl⟩ := hcut
        have hA2 : At (w1.drewN nq) w.heap.size v fold := hA1
        have HI2 : Hid ((w1.drewN nq).heap[w.heap.size + 1]? = some (.stringIter s (pos + n))) := HI1
        have hP2 : Pt (w1.drewN nq) (w.heap.size + 2) v (P.cols done) := hP1
        have hB2 : Below w.heap.size w (w1.drewN nq) := below_drewN hB1 nq
        have hS2 : w.heap.size + 2 ≤ (w1.drewN nq).heap.size := hS1
        clear hA1 HI1 hP1 hB1 hS1 hcell
        generalize w1.drewN nq = w2 at *
        by_cases hdrop : r = 37 ∧ 0 < (P.cols done).length ∧ (P.cols done).getD ((P.cols done).length - 1) 0 = 37
        · have hcol := P.col_yes hdrop.1 hdrop.2.1 hdrop.2.2
          have hdb : decide (r = 37 ∧ 0 < (P.cols done).length ∧ (P.cols done).getD ((P.cols done).length - 1) 0 = 37) = true := decide_eq_true hdrop
          rw [hdb]
          have HC : Hid (P.cols (done ++ [r]) = P.cols done) := by show _ = _; rw [P.cols_snoc, hcol]
          clear hdrop hdb hcol
          go_wp2
          go_roundg f
          case measure => omega
          case rel => exact ⟨pos + n, done ++ [r], v, hA2, HI2, by rw [HC.out]; exact hP2, HR1, by omega, hB2, hS2, by simp; omega⟩
        · have hcol := P.col_no hdrop
          have hdb : decide (r = 37 ∧ 0 < (P.cols done).length ∧ (P.cols done).getD ((P.cols done).length - 1) 0 = 37) = false := decide_eq_false hdrop
          rw [hdb]
          have HC : Hid (P.cols (done ++ [r]) = P.cols done ++ [r]) := by show _ = _; rw [P.cols_snoc, hcol]
          clear hdrop hdb hcol
          have hcell := hA2.cell0
          have hOwn : w2.ownsRow (w.heap.size + 2) 21 1 v (P.cols done).length ((P.cols done).map (Value.int .i32)) := by
            rcases hP2 with ⟨hC, rfl⟩ | ⟨g, cp, rfl, O⟩
            · rw [hC]; exact World.ownsRow_nil _ _ _ _
            · exact O
          go_wp2_with (at_builtin; refine wpList_append_own _ rfl _ _ 27 rfl (w.heap.size + 2) 21 i0 (.int .i32 0) 1 4 Try.underlying27 hi hz0 hz1 hz2 rfl (by decide) _ _ _ rfl (hOwn.alloc _) ⟨w2.heap.size, 0, none⟩ 1 1 [.int .i32 r] rfl rfl ?c1 ?c2 ?c3 ?c4 ?c5 ?_)
          case c1 =>
            intro j u hj
            match j, hj with
            | 0, hj => simp at hj; subst hj; simp [Addr.add]
          case c2 => intro u hu; simp at hu; subst hu; rfl
          case c3 => unfold maxLen; omega
          case c4 => omega
          case c5 => simp; omega
          · intro v' w3 hown' hgrow _
            obtain ⟨g5, cp5, hv5, O5⟩ := Own.app hown'
            rw [hv5]
            have hown := hP2.block
            have hA3 : At w3 w.heap.size v fold := (kept_block hgrow (by omega) (fun h => by have := hown _ h; omega)).trans hA2
            have HI3 : Hid (w3.heap[w.heap.size + 1]? = some (.stringIter s (pos + n))) := (kept_block hgrow (by omega) (fun h => by have := hown _ h; omega)).trans HI2.out
            have hB3 : Below w.heap.size w w3 := (hB2.alloc (by omega) _).grown hgrow (by simp; omega) (fun k hk => by have := hown _ hk; omega)
            have hS3 : w.heap.size + 2 ≤ w3.heap.size := by have := hgrow.size; simp at this; omega
            have hcell3 := hA3.cell0
            have hfrz3 := hA3.frz 0
            clear hown' hgrow hOwn hcell hv5 hP2 hA2 HI2 hB2 hS2 hown
            go_wp2
            go_roundg f
            case measure => omega
            case rel =>
              refine ⟨pos + n, done ++ [r], _, hA3.set _, ?_, .inr ⟨g5, cp5, ?_, ?_⟩, HR1, by omega, hB3.setCell (p := ⟨w.heap.size, 0, none⟩) (Nat.le_refl _) _, by simpa using hS3, by simp; omega⟩
              · exact (Below.heap_setCell w3 ⟨w.heap.size, 0, none⟩ _ _ (by simp)).trans HI3.out
              · rw [HC.out]; simp
              · rw [HC.out]; exact O5.other (by have := O5.parts; omega)
    · have hn := fun ty => Lib.run_next_end_at (P := Try.prog) wr (w.heap.size + 1) s pos ty HI.out hlt
      go_wp2_with fail
      go_ret
      have e : P.runes s s.size 0 = done := by
        rw [HR.out]
        cases gk <;> simp [P.runes, hlt]
      rw [e]
      exact ⟨rfl, v, hA, hP, hB⟩
end Go.Proofs.Qxb6617207a
