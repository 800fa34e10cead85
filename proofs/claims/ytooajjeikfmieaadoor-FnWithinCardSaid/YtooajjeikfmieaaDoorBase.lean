/-
  What is proved here: slices.Equal at two slices of strings, and the contracts of zzFits1, spec.Well, impl.Dedup and spec.Any with their Bools told ahead, as the laws' walks use them. Conditions: those that each theorem names.
-/
import Derived.Test.YtooajjeikfmieaaDoorDedup
namespace Go.Proofs.YtooajjeikfmieaaDoor
open Go.RowKit

theorem below_draws {B : Nat} {a w : World} (h : Below B a w) (q : Nat) : Below B a (w.drewN q) := ⟨h.os, h.tape, h.output, h.size, h.block⟩

theorem getD_of {xs : List ByteArray} {w : World} {b o : Nat} (h : StrsAt w b o xs) : ∀ j, j < xs.length → w.cell? ⟨b, o + j, none⟩ = some (.string (xs.getD j ByteArray.empty)) := fun j hj => by
  rw [h j xs[j] (List.getElem?_eq_getElem hj), List.getD_eq_getElem?_getD, List.getElem?_eq_getElem hj]
  rfl

/-- slices.Equal at two slices of strings -/
theorem equal_any (v1 v2 : Value) (xs ys : List ByteArray) (w : World) (h1 : xs.length ≤ 9223372036854775807) (h2 : ys.length ≤ 9223372036854775807) (hx : Strs w v1 xs) (hy : Strs w v2 ys) :
    Calls Go.Proofs.Tryd.prog 17 #[v1, v2] w fun e w' => e = .returned (.bool (decide (xs = ys))) ∧ Below w.heap.size w w' := by
  rcases hx with ⟨rfl, a1, c1, _, rfl⟩ | ⟨hne, b1, o1, c1, rfl, _, _, _, hc1⟩
  · have e : ∀ {m : Nat}, ys.length = m → decide (m = 0) = decide (([] : List ByteArray) = ys) := fun {m} hm => by
      refine decide_eq_decide.2 ?_
      rw [← hm, List.length_eq_zero_iff]
      exact ⟨fun h => h.symm, fun h => h.symm⟩
    rcases hy with ⟨rfl, a2, c2, _, rfl⟩ | ⟨_, b2, o2, c2, rfl, _, _, _, hc2⟩
    · refine (Tryd.slices_Equal_string_empty a1 a2 c1 0 c2 w (by omega)).mono ?_
      rintro e w' ⟨rfl, rfl⟩
      exact ⟨ret_bool rfl, Below.refl _ _⟩
    · refine (Tryd.slices_Equal_string_empty a1 _ c1 ys.length c2 w h2).mono ?_
      rintro e' w' ⟨rfl, rfl⟩
      exact ⟨ret_bool (e rfl), Below.refl _ _⟩
  · rcases hy with ⟨rfl, a2, c2, _, rfl⟩ | ⟨_, b2, o2, c2, rfl, _, _, _, hc2⟩
    · refine (Tryd.slices_Equal_string_lens _ a2 xs.length c1 0 c2 w (fun h => hne (List.length_eq_zero_iff.1 h))).mono ?_
      rintro e w' ⟨rfl, rfl⟩
      exact ⟨ret_bool (by simp [hne]), Below.refl _ _⟩
    · refine (Tryd.slices_Equal_string b1 o1 xs.length c1 b2 o2 ys.length c2 xs ys w (Nat.le_refl _) (Nat.le_refl _) h1 h2 (getD_of hc1) (getD_of hc2)).mono ?_
      rintro e w' ⟨rfl, q, rfl⟩
      exact ⟨ret_bool (by rw [List.take_length, List.take_length]), below_draws (Below.refl _ _) q⟩

theorem equal_same (v1 v2 : Value) (xs : List ByteArray) (w : World) (h1 : xs.length ≤ 9223372036854775807) (hx : Strs w v1 xs) (hy : Strs w v2 xs) :
    Calls Go.Proofs.Tryd.prog 17 #[v1, v2] w fun e w' => e = .returned (.bool true) ∧ Below w.heap.size w w' := by
  have c := equal_any v1 v2 xs xs w h1 h1 hx hy
  rwa [decide_eq_true rfl] at c

theorem fits_size {xs : List ByteArray} (h : fitsB xs = true) : xs.length ≤ 2147483647 ∧ ∀ x ∈ xs, x.size ≤ 2147483647 := by
  simpa [fitsB] using h
theorem well_items {fold : Bool} {xs : List ByteArray} (h : wellB fold xs = true) : (∀ x ∈ xs, okI fold x = true) ∧ xs.length ≤ 1000 := by
  simpa [wellB] using h
theorem bad_true (xs : List ByteArray) : xs.any (badB true) = false := by simp [badB]
theorem bad_false (xs : List ByteArray) : xs.any (badB false) = xs.any nulS := by
  congr 1

theorem fits_is (v : Value) (xs : List ByteArray) (w : World) (q : Bool) (hn : xs.length ≤ 9223372036854775807) (hv : Strs w v xs) (h : fitsB xs = q) :
    Calls Go.Proofs.Tryd.prog 8 #[v] w fun e w' => e = .returned (.bool q) ∧ w = w' := by
  rw [← h]
  exact fits_any v xs w hn hv
theorem well_is (v : Value) (xs : List ByteArray) (fold : Bool) (w : World) (q : Bool) (hf : fitsB xs = true) (hv : Strs w v xs) (h : wellB fold xs = q) :
    Calls Go.Proofs.Tryd.prog 9 #[v, .bool fold] w fun e w' => e = .returned (.bool q) ∧ w = w' := by
  have hs := fits_size hf
  rw [← h]
  exact well_any v fold xs w (by omega) (fun x hx => by have := hs.2 x hx; omega) hv
/-- impl.Dedup with its Bool told -/
theorem dedup_true (v : Value) (xs : List ByteArray) (fold : Bool) (w : World) (hf : fitsB xs = true) (hw : ∀ x ∈ xs, okI fold x = true) (hv : Strs w v xs) :
    Calls Go.Proofs.Tryd.prog 12 #[.bool fold, .bool true, v] w fun e w' => ∃ vo, e = .returned (.tuple #[vo, .bool true]) ∧ Strs w' vo (dedS fold true xs) ∧ Below w.heap.size w w' := by
  have hs := fits_size hf
  have c := dedup_any v xs fold true w hs.1 hs.2 hw hv
  rwa [bad_true, Bool.not_false] at c
theorem dedup_false (v : Value) (xs : List ByteArray) (fold : Bool) (w : World) (q : Bool) (hf : fitsB xs = true) (hw : ∀ x ∈ xs, okI fold x = true) (hv : Strs w v xs) (hq : xs.any nulS = q) :
    Calls Go.Proofs.Tryd.prog 12 #[.bool fold, .bool false, v] w fun e w' => ∃ vo, e = .returned (.tuple #[vo, .bool (!q)]) ∧ Strs w' vo (dedS fold false xs) ∧ Below w.heap.size w w' := by
  have hs := fits_size hf
  have c := dedup_any v xs fold false w hs.1 hs.2 hw hv
  rwa [bad_false, hq] at c
theorem any_is (v : Value) (xs : List ByteArray) (w : World) (q : Bool) (hf : fitsB xs = true) (hv : Strs w v xs) (h : xs.any nulS = q) :
    Calls Go.Proofs.Tryd.prog 15 #[v] w fun e w' => e = .returned (.bool q) ∧ w = w' := by
  have hs := fits_size hf
  rw [← h]
  exact any_any v xs w (by omega) (fun x hx => by have := hs.2 x hx; omega) hv
theorem dedS_length (fold nul : Bool) (xs : List ByteArray) : (dedS fold nul xs).length ≤ xs.length := Plain.ded_length xs
end Go.Proofs.YtooajjeikfmieaaDoor
