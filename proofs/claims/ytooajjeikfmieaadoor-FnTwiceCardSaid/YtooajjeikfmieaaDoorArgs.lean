/-
  What is proved here: an argument that is a slice of strings reads as a list of strings (what the laws' walks ask), and closed facts on the program that the rows' proofs use. Conditions: that the argument can be read.
-/
import Derived.Test.YtooajjeikfmieaaDoorCards
import Derived.Test.YtooajjeikfmieaaDoorTie
import Derived.Test.YtooajjeikfmieaaDoorFits
import Derived.WalkKit
import Derived.ProofKit
import Derived.Lay
import Derived.LaidOnce
import Derived.SevenTiedAt
import Derived.SliceStrings
import Derived.SizedLaws
namespace Go.Proofs.YtooajjeikfmieaaDoor
open Go.RowKit Go.ChangeShapes Go.WideShapes Go.ChangeAt

theorem own : ownKnob Go.Proofs.Tryd.prog.godebug = none := by kernel_rfl
theorem laidOut : laidOutB Go.Proofs.Tryd.prog = true := by kernel_rfl
theorem cells9 : Go.Proofs.Tryd.prog.cellsOf 9 = 1 := by kernel_rfl

theorem strs_arg {H : Type} {enc : TypeId × Value → H} {W : World} {base : Nat} {v : Value} {d : DataW H} {ps : List MemPlace} (hok : Value.okWide Go.Proofs.Tryd.prog W .any base 22 v) (h : DataW.Trod enc Go.Proofs.Tryd.prog W 0 (fun _ => true) true 22 v d ps) (hlt : ∀ x ∈ ps, x.block < W.heap.size) :
    ∃ xs : List ByteArray, Strs W v xs ∧ xs.length ≤ 9223372036854775807 := by
  obtain ⟨a0, len, cap, rfl⟩ := okWide_slice Tryd.underlying22 hok
  obtain ⟨fuel, hf⟩ := h
  rcases open_strings Tryd.underlying22 Tryd.underlying9 cells9 hf with ⟨hcs, hx⟩ | ⟨a, len', cap', ss, hcs, _, hl, hm, hz, hx, hcell, hws⟩
  · simp [Value.cells] at hcs
    obtain ⟨rfl, rfl, rfl⟩ := hcs
    exact ⟨[], .inl ⟨rfl, none, 0, fun _ => rfl, rfl⟩, by simp⟩
  · simp [Value.cells] at hcs
    obtain ⟨rfl, rfl, rfl⟩ := hcs
    simp only [Prod.mk.injEq] at hx
    obtain ⟨rfl, rfl⟩ := hx
    simp only [if_true] at hz
    by_cases hl0 : len = 0
    · subst hl0
      exact ⟨[], .inl ⟨rfl, some a, cap, fun h => (by cases h), rfl⟩, by simp⟩
    · obtain ⟨b, off, spot⟩ := a
      have hspot : spot = none := by simpa [Addr.add] using World.cell?_spot (hcell 0 (by omega))
      subst hspot
      have hbW : b < W.heap.size := hlt (.cell b off) (MemPlace.mem_row.2 ⟨0, by omega, by simp⟩)
      have hlen : (ss.take len).length = len := by simp; omega
      refine ⟨ss.take len, .inr ⟨fun e => by rw [e] at hlen; simp at hlen; omega, b, off, cap, by rw [hlen], by omega, hm, hbW, fun i x hi => ?_⟩, by unfold maxLen at hm; omega⟩
      have hil : i < len := by
        have := (List.getElem?_eq_some_iff.1 hi).1
        omega
      have := hcell i (by omega)
      rw [Addr.add_lit] at this
      rw [this]
      rw [List.getElem?_take_of_lt hil] at hi
      rw [List.getD_eq_getElem?_getD, hi]
      rfl
end Go.Proofs.YtooajjeikfmieaaDoor
