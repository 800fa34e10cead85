/-
  What is proved here: small lemmas on a slice of strings that a call has made itself, and how the plain list without duplicates (Plain.ded) goes by the items' keys and bytes of 0. Conditions: those that each lemma names.
-/
import Derived.Test.YtooajjeikfmieaaDoorFits
import Derived.Test.YtooajjeikfmieaaDoorPlain
namespace Go.Proofs.YtooajjeikfmieaaDoor
open Go.RowKit

/-- the slice v, made by the call itself (blocks from B on), holds the strings D -/
def Own (B : Nat) (w : World) (v : Value) (D : List ByteArray) : Prop := w.ownsRow B 9 1 v D.length (D.map Value.string)

theorem info9 : (Tryd.prog.info? 9).map (fun i => (i.zero, i.size, i.bytes)) = some (some (.string ⟨#[]⟩), 1, 16) := by kernel_rfl

theorem grown_of_below {w w' : World} (h : Below w.heap.size w w') : w.grownBy w' none := ⟨h.os, h.tape, h.output, h.size, fun k hk _ => h.block k hk⟩
theorem Own.below {B : Nat} {w w' : World} {v : Value} {D : List ByteArray} (h : Own B w v D) (hb : Below w.heap.size w w') : Own B w' v D :=
  World.ownsRow.kept h (grown_of_below hb) (by cases v.ownBlock <;> simp)
theorem Own.nil (B : Nat) (w : World) : Own B w (.slice none 0 0) [] := World.ownsRow_nil w B 9 1
theorem Own.strs {B : Nat} {w : World} {v : Value} {D : List ByteArray} (h : Own B w v D) : Strs w v D := by
  rcases h.2 with ⟨rfl, h0⟩ | ⟨g, cap, cur, rfl, _, hg, hn, hm, hs, ht⟩
  · exact .inl ⟨List.eq_nil_of_length_eq_zero h0, none, 0, fun _ => rfl, rfl⟩
  · by_cases hD : D = []
    · subst hD
      exact .inl ⟨rfl, some ⟨g, 0, none⟩, cap, fun h => (by cases h), rfl⟩
    · refine .inr ⟨hD, g, 0, cap, rfl, hn, hm, (Array.getElem?_eq_some_iff.1 hg).1, fun i x hx => ?_⟩
      have hi : i < D.length := (List.getElem?_eq_some_iff.1 hx).1
      have h2 : w.cell? ⟨g, i, none⟩ = cur[i]? := by
        unfold World.cell?
        rw [hg]
        simp
      rw [Nat.zero_add, h2]
      have h3 : (cur.toList.take (D.length * 1))[i]? = some (.string x) := by rw [ht, List.getElem?_map, hx]; rfl
      rw [List.getElem?_take_of_lt (by omega)] at h3
      simpa using h3
theorem oneString (x : ByteArray) : ∀ u ∈ [Value.string x], u.oneCell' = true := by
  intro u hu
  simp at hu
  subst hu
  rfl

/-- is the item left out for a byte of 0? -/
def badB (nul : Bool) (x : ByteArray) : Bool := !nul && nulS x
/-- the environment without duplicates -/
def dedS (fold nul : Bool) (xs : List ByteArray) : List ByteArray := Plain.ded (keyO fold) (badB nul) xs
/-- does the item y, that stands behind x, take x's place? -/
def clash (fold nul : Bool) (x y : ByteArray) : Bool := hasK x && hasK y && ((keyS fold y).toList == (keyS fold x).toList) && (nul || !nulS y)

theorem bytes_eq {p x : ByteArray} : (p.toList == x.toList) = decide (p = x) := by
  rw [Bool.eq_iff_iff]
  simp only [beq_iff_eq, decide_eq_true_eq]
  constructor
  · intro h
    rw [Lib.toList_data, Lib.toList_data] at h
    have := Array.toList_inj.1 h
    cases p; cases x
    simp_all
  · rintro rfl
    rfl
theorem keyO_yes {fold : Bool} {x : ByteArray} (h : hasK x = true) : keyO fold x = some (keyS fold x).data.toList := by
  simp [keyO, keyS, h]
theorem keyO_no {fold : Bool} {x : ByteArray} (h : hasK x = false) : keyO fold x = none := by
  simp [keyO, h]
theorem keyS_toList {fold : Bool} {x y : ByteArray} : ((keyS fold y).toList == (keyS fold x).toList) = decide ((keyS fold y).data.toList = (keyS fold x).data.toList) := by
  rw [Lib.toList_data, Lib.toList_data, Bool.eq_iff_iff]
  simp
theorem clash_eq (fold nul : Bool) (x y : ByteArray) (h : hasK x = true) : clash fold nul x y = (!badB nul y && decide (keyO fold y = some (keyS fold x).data.toList)) := by
  cases hy : hasK y with
  | false => simp [clash, hy, keyO_no hy]
  | true =>
    rw [keyO_yes hy, clash, keyS_toList, h, hy, badB]
    cases nul <;> cases nulS y <;> simp
theorem drops_eq (fold nul : Bool) (x : ByteArray) (r : List ByteArray) (hb : badB nul x = false) : Plain.drops (keyO fold) (badB nul) x r = r.any (clash fold nul x) := by
  unfold Plain.drops
  rw [hb, Bool.false_or]
  cases hx : hasK x with
  | false =>
    rw [keyO_no hx]
    simp [clash, hx]
  | true =>
    rw [keyO_yes hx]
    simp only [Plain.seen, ← clash_eq fold nul x _ hx]
theorem dedS_bad {fold nul : Bool} {xs : List ByteArray} {k : Nat} {x : ByteArray} (hx : xs[k]? = some x) (hb : badB nul x = true) : dedS fold nul (xs.drop k) = dedS fold nul (xs.drop (k + 1)) := by
  obtain ⟨h1, e1⟩ := List.getElem?_eq_some_iff.1 hx
  rw [List.drop_eq_getElem_cons h1, e1, dedS, Plain.ded, if_pos (by simp [Plain.drops, hb])]
  rfl
theorem dedS_later {fold nul : Bool} {xs : List ByteArray} {k : Nat} {x : ByteArray} (hx : xs[k]? = some x) (hb : badB nul x = false) (hl : (xs.drop (k + 1)).any (clash fold nul x) = true) : dedS fold nul (xs.drop k) = dedS fold nul (xs.drop (k + 1)) := by
  obtain ⟨h1, e1⟩ := List.getElem?_eq_some_iff.1 hx
  rw [List.drop_eq_getElem_cons h1, e1, dedS, Plain.ded, if_pos (by rw [drops_eq fold nul x _ hb, hl])]
  rfl
theorem dedS_keep {fold nul : Bool} {xs : List ByteArray} {k : Nat} {x : ByteArray} (hx : xs[k]? = some x) (hb : badB nul x = false) (hl : (xs.drop (k + 1)).any (clash fold nul x) = false) : dedS fold nul (xs.drop k) = x :: dedS fold nul (xs.drop (k + 1)) := by
  obtain ⟨h1, e1⟩ := List.getElem?_eq_some_iff.1 hx
  rw [List.drop_eq_getElem_cons h1, e1, dedS, Plain.ded, if_neg (by rw [drops_eq fold nul x _ hb, hl]; simp)]
  rfl
theorem dedS_end {fold nul : Bool} {xs : List ByteArray} {k : Nat} (h : xs.length ≤ k) : dedS fold nul (xs.drop k) = [] := by
  rw [List.drop_eq_nil_of_le h]
  rfl
end Go.Proofs.YtooajjeikfmieaaDoor
