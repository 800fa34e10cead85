/-
  What is proved here: the relation of dedupEnvCase's second loop, which turns its own list round in place, and what a round does to it; no program is walked. Conditions: those that each lemma names.
-/
import Derived.Test.YtooajjeikfmieaaDoorOwn
import Derived.Deep.Draws
namespace Go.Proofs.YtooajjeikfmieaaDoor
open Go.RowKit

/-- after i exchanges -/
def RevAt (D : List ByteArray) (i : Nat) (L : List ByteArray) : Prop := L.length = D.length ∧ ∀ q, q < D.length → L[q]? = if q < i ∨ D.length ≤ q + i then D[D.length - 1 - q]? else D[q]?

theorem RevAt.start (D : List ByteArray) : RevAt D 0 D := ⟨rfl, fun q hq => by rw [if_neg (by omega)]⟩
theorem RevAt.step {D L : List ByteArray} {i : Nat} {p r : ByteArray} (h : RevAt D i L) (hi : i < D.length / 2) (hp : L[i]? = some p) (hr : L[D.length - i - 1]? = some r) : RevAt D (i + 1) ((L.set i r).set (D.length - i - 1) p) := by
  obtain ⟨hl, hq⟩ := h
  have e1 : D[i]? = some p := by rw [← hp, hq i (by omega), if_neg (by omega)]
  have e2 : D[D.length - i - 1]? = some r := by rw [← hr, hq (D.length - i - 1) (by omega), if_neg (by omega)]
  refine ⟨by simpa using hl, fun q hlt => ?_⟩
  rw [List.getElem?_set, List.getElem?_set, List.length_set]
  by_cases c1 : D.length - i - 1 = q
  · rw [if_pos c1, if_pos (by omega), if_pos (by omega), show D.length - 1 - q = i by omega, e1]
  · rw [if_neg c1]
    by_cases c2 : i = q
    · rw [if_pos c2, if_pos (by omega), if_pos (by omega), show D.length - 1 - q = D.length - i - 1 by omega, e2]
    · rw [if_neg c2, hq q hlt]
      by_cases c3 : q < i ∨ D.length ≤ q + i
      · rw [if_pos c3, if_pos (by omega)]
      · rw [if_neg c3, if_neg (by omega)]
theorem RevAt.done {D L : List ByteArray} {i : Nat} (h : RevAt D i L) (hi : D.length / 2 ≤ i) : L = D.reverse := by
  obtain ⟨hl, hq⟩ := h
  refine List.ext_getElem? fun q => ?_
  by_cases hlt : q < D.length
  · rw [hq q hlt, List.getElem?_reverse hlt]
    split
    · rfl
    · rw [show D.length - 1 - q = q by omega]
  · rw [List.getElem?_eq_none (by omega), List.getElem?_eq_none (by simp; omega)]

/-- the second loop's relation -/
def TurnAt (W : World) (D : List ByteArray) (n i : Nat) (wr : World) : Prop :=
  ∃ L, RevAt D i L ∧ wr.ownsRow W.heap.size 9 1 (.slice (some ⟨W.heap.size, 0, none⟩) D.length n) D.length (L.map Value.string) ∧ Below W.heap.size W wr

theorem TurnAt.at {W wr : World} {D : List ByteArray} {n i : Nat} (h : TurnAt W D n i wr) (hi : i < D.length / 2) :
    ∃ p r : ByteArray, (wr.cell? ⟨W.heap.size, i, none⟩ = some (.string p) ∧ wr.cell? ⟨W.heap.size, D.length - i - 1, none⟩ = some (.string r)) ∧
      (wr.frozen? ⟨W.heap.size, i, none⟩ = false ∧ wr.frozen? ⟨W.heap.size, D.length - i - 1, none⟩ = false) ∧
      TurnAt W D n (i + 1) ((wr.setCell ⟨W.heap.size, i, none⟩ (.string r)).setCell ⟨W.heap.size, D.length - i - 1, none⟩ (.string p)) := by
  obtain ⟨L, hL, ho, hb⟩ := h
  have hlen := hL.1
  obtain ⟨p, hp⟩ : ∃ p, L[i]? = some p := ⟨_, List.getElem?_eq_getElem (by omega)⟩
  obtain ⟨r, hr⟩ : ∃ r, L[D.length - i - 1]? = some r := ⟨_, List.getElem?_eq_getElem (by omega)⟩
  refine ⟨p, r, ⟨?_, ?_⟩, ⟨ho.frozenAt _, ho.frozenAt _⟩, ?_⟩
  · rw [ho.cellAt i (by omega), List.getElem?_map, hp]; rfl
  · rw [ho.cellAt _ (by omega), List.getElem?_map, hr]; rfl
  · have s1 := ho.stored i (.string r)
    have s2 := s1.1.stored (D.length - i - 1) (.string p)
    refine ⟨_, hL.step hi hp hr, ?_, (hb.setCell (Nat.le_refl _) _).setCell (Nat.le_refl _) _⟩
    rw [List.map_set, List.map_set]
    exact s2.1

theorem TurnAt.drewN {W wr : World} {D : List ByteArray} {n i : Nat} (h : TurnAt W D n i wr) (q : Nat) : TurnAt W D n i (wr.drewN q) := by
  obtain ⟨L, hL, ho, hb⟩ := h
  exact ⟨L, hL, ho, ⟨hb.os, hb.tape, hb.output, hb.size, hb.block⟩⟩
theorem TurnAt.drew {W wr : World} {D : List ByteArray} {n i : Nat} (h : TurnAt W D n i wr) : TurnAt W D n i wr.drew := by
  obtain ⟨L, hL, ho, hb⟩ := h
  exact ⟨L, hL, ho, hb.drew⟩
theorem TurnAt.done {W wr : World} {D : List ByteArray} {n i : Nat} (h : TurnAt W D n i wr) (hi : D.length / 2 ≤ i) : Strs wr (.slice (some ⟨W.heap.size, 0, none⟩) D.length n) D.reverse ∧ Below W.heap.size W wr := by
  obtain ⟨L, hL, ho, hb⟩ := h
  refine ⟨?_, hb⟩
  have e := hL.done hi
  have hlen : D.length = L.length := hL.1.symm
  rw [← e]
  refine Own.strs (B := W.heap.size) ?_
  unfold Own
  rw [← hlen]
  exact ho
end Go.Proofs.YtooajjeikfmieaaDoor
