/-
  What is proved here: the walk of the law FnTwice: it returns true for every list of strings, and below the heap's end the world is as it was. Conditions: the list's length and the strings' sizes are ints.
-/
import Derived.Test.YtooajjeikfmieaaDoorBase
namespace Go.Proofs.YtooajjeikfmieaaDoor
open Go.RowKit

theorem dedS_mem {fold nul : Bool} {xs : List ByteArray} {x : ByteArray} (h : x ∈ dedS fold nul xs) : x ∈ xs := Plain.ded_mem h
theorem dedS_dedS (fold nul : Bool) (xs : List ByteArray) : dedS fold nul (dedS fold nul xs) = dedS fold nul xs := Plain.ded_ded xs
theorem dedS_clean (fold : Bool) (xs : List ByteArray) : (dedS fold false xs).any nulS = false := by
  rw [List.any_eq_false]
  intro x hx
  have := Plain.ded_good (key := keyO fold) (bad := badB false) hx
  simpa [badB] using this
theorem dedS_fits {fold nul : Bool} {xs : List ByteArray} (h : fitsB xs = true) : fitsB (dedS fold nul xs) = true := by
  have hs := fits_size h
  have hl := dedS_length fold nul xs
  rw [fitsB, decide_eq_true (by omega), Bool.true_and, List.all_eq_true]
  intro x hx
  exact decide_eq_true (hs.2 x (dedS_mem hx))

set_option maxHeartbeats 1000000 in
set_option maxRecDepth 100000 in
theorem twice_walk (v : Value) (xs : List ByteArray) (fold nul : Bool) (w : World) (hn : xs.length ≤ 9223372036854775807) (hv : Strs w v xs) :
    Calls Go.Proofs.Tryd.prog 7 #[.bool fold, .bool nul, v] w fun e w' => e = .returned (.bool true) ∧ Below w.heap.size w w' := by
  cases hf : fitsB xs with
  | false =>
    have c := fits_is v xs w false hn hv hf
    clear hf hv
    go_enter Tryd.func7, Tryd.ntmps7
    go_wp2_with fail
    refine c.mono ?_
    rintro e w' ⟨rfl, rfl⟩
    go_wp2_with fail
    go_ret
    exact ⟨rfl, Below.refl _ _⟩
  | true =>
    have c := fits_is v xs w true hn hv hf
    cases hw : wellB fold xs with
    | false =>
      have d := well_is v xs fold w false hf hv hw
      clear hf hv hw
      go_enter Tryd.func7, Tryd.ntmps7
      go_wp2_with fail
      refine c.mono ?_
      rintro e w' ⟨rfl, rfl⟩
      go_wp2_with fail
      refine d.mono ?_
      rintro e w' ⟨rfl, rfl⟩
      go_wp2_with fail
      go_ret
      exact ⟨rfl, Below.refl _ _⟩
    | true =>
      have d := well_is v xs fold w true hf hv hw
      have hs := fits_size hf
      have H := Lib.hid (And.intro hf (And.intro (well_items hw).1 hv))
      have hl := dedS_length fold nul xs
      have hs1 := hs.1
      clear hf hw hv hs
      have g : ∃ ok : Bool, Calls Go.Proofs.Tryd.prog 12 #[.bool fold, .bool nul, v] w fun e w' => ∃ vo, e = .returned (.tuple #[vo, .bool ok]) ∧ Strs w' vo (dedS fold nul xs) ∧ Below w.heap.size w w' := by
        cases nul with
        | true => exact ⟨_, dedup_true v xs fold w H.out.1 H.out.2.1 H.out.2.2⟩
        | false => exact ⟨_, dedup_false v xs fold w _ H.out.1 H.out.2.1 H.out.2.2 rfl⟩
      obtain ⟨ok, g⟩ := g
      have G := Lib.hid (fun w1 v1 (h : Strs w1 v1 (dedS fold nul xs)) => show Calls Go.Proofs.Tryd.prog 12 #[.bool fold, .bool nul, v1] w1 fun e w' => ∃ vo, e = .returned (.tuple #[vo, .bool true]) ∧ Strs w' vo (dedS fold nul xs) ∧ Below w1.heap.size w1 w' from by
        have hi : ∀ x ∈ dedS fold nul xs, okI fold x = true := fun x hx => H.out.2.1 x (dedS_mem hx)
        have hd := dedS_dedS fold nul xs
        cases nul with
        | true =>
          have := dedup_true v1 (dedS fold true xs) fold w1 (dedS_fits H.out.1) hi h
          rwa [hd] at this
        | false =>
          have := dedup_false v1 (dedS fold false xs) fold w1 false (dedS_fits H.out.1) hi h (dedS_clean fold xs)
          rwa [hd] at this)
      go_enter Tryd.func7, Tryd.ntmps7
      go_wp2_with fail
      refine c.mono ?_
      rintro e w' ⟨rfl, rfl⟩
      go_wp2_with fail
      refine d.mono ?_
      rintro e w' ⟨rfl, rfl⟩
      go_wp2_with fail
      refine g.mono ?_
      rintro e w1 ⟨vo, rfl, h1, hb1⟩
      have g2 := G.out w1 vo h1
      have H1 := Lib.hid h1
      have HB1 := Lib.hid hb1
      clear h1 hb1
      go_wp2_with fail
      refine g2.mono ?_
      rintro e w2 ⟨vs, rfl, h2, hb2⟩
      have q := equal_same vs vo _ w2 (by omega) h2 (H1.out.below hb2)
      have HB2 := Lib.hid (HB1.out.trans (hb2.mono HB1.out.size))
      clear h2 hb2
      go_wp2_with fail
      refine q.mono ?_
      rintro e w3 ⟨rfl, hb3⟩
      have HB3 := Lib.hid (HB2.out.trans (hb3.mono HB2.out.size))
      clear hb3
      go_wp2_with fail
      go_ret
      exact ⟨rfl, HB3.out⟩
end Go.Proofs.YtooajjeikfmieaaDoor
