/-
  What is proved here: the walk of the law FnExactDedup: it returns true for every list of strings, and below the heap's end the world is as it was. Conditions: the list's length and the strings' sizes are ints.
-/
import Derived.Test.YtooajjeikfmieaaDoorBase
import Derived.Test.YtooajjeikfmieaaDoorSpec
namespace Go.Proofs.YtooajjeikfmieaaDoor
open Go.RowKit

set_option maxHeartbeats 1000000 in
set_option maxRecDepth 100000 in
theorem exact_walk (v : Value) (xs : List ByteArray) (fold nul : Bool) (w : World) (hn : xs.length ≤ 9223372036854775807) (hv : Strs w v xs) :
    Calls Go.Proofs.Tryd.prog 6 #[.bool fold, .bool nul, v] w fun e w' => e = .returned (.bool true) ∧ Below w.heap.size w w' := by
  cases hf : fitsB xs with
  | false =>
    have c := fits_is v xs w false hn hv hf
    clear hf hv
    go_enter Tryd.func6, Tryd.ntmps6
    go_wp2_with fail
    refine c.mono ?_
    rintro e w' ⟨rfl, rfl⟩
    go_wp2_with fail
    go_ret
    exact ⟨rfl, Below.refl _ _⟩
  | true =>
    have c := fits_is v xs w true hn hv hf
    cases hw : wellB fold xs with
    | false =>
      have d := well_is v xs fold w false hf hv hw
      clear hf hv hw
      go_enter Tryd.func6, Tryd.ntmps6
      go_wp2_with fail
      refine c.mono ?_
      rintro e w' ⟨rfl, rfl⟩
      go_wp2_with fail
      refine d.mono ?_
      rintro e w' ⟨rfl, rfl⟩
      go_wp2_with fail
      go_ret
      exact ⟨rfl, Below.refl _ _⟩
    | true =>
      have d := well_is v xs fold w true hf hv hw
      have hs := fits_size hf
      have H := Lib.hid (And.intro hf (And.intro (well_items hw).1 hv))
      have HS := Lib.hid (fun w1 v1 h => spec_any v1 xs fold nul w1 hs.1 hs.2 h)
      have hl := dedS_length fold nul xs
      have hs1 := hs.1
      clear hf hw hv hs
      cases nul with
      | true =>
        have g := dedup_true v xs fold w H.out.1 H.out.2.1 H.out.2.2
        go_enter Tryd.func6, Tryd.ntmps6
        go_wp2_with fail
        refine c.mono ?_
        rintro e w' ⟨rfl, rfl⟩
        go_wp2_with fail
        refine d.mono ?_
        rintro e w' ⟨rfl, rfl⟩
        go_wp2_with fail
        refine g.mono ?_
        rintro e w1 ⟨vo, rfl, h1, hb1⟩
        have H1 := Lib.hid h1
        have HB1 := Lib.hid hb1
        have s := HS.out w1 v (H.out.2.2.below hb1)
        clear h1 hb1
        go_wp2_with fail
        refine s.mono ?_
        rintro e w2 ⟨vs, rfl, h2, hb2⟩
        have q := equal_same vo vs _ w2 (by omega) (H1.out.below hb2) h2
        have HB2 := Lib.hid (HB1.out.trans (hb2.mono HB1.out.size))
        clear h2 hb2
        go_wp2_with fail
        refine q.mono ?_
        rintro e w3 ⟨rfl, hb3⟩
        have HB3 := Lib.hid (HB2.out.trans (hb3.mono HB2.out.size))
        clear hb3
        go_wp2_with fail
        go_ret
        exact ⟨rfl, HB3.out⟩
      | false =>
        cases ha : xs.any nulS
        all_goals
          have g := dedup_false v xs fold w _ H.out.1 H.out.2.1 H.out.2.2 ha
          have HA := Lib.hid ha
          clear ha
          simp only [Bool.not_true, Bool.not_false] at g
          go_enter Tryd.func6, Tryd.ntmps6
          go_wp2_with fail
          refine c.mono ?_
          rintro e w' ⟨rfl, rfl⟩
          go_wp2_with fail
          refine d.mono ?_
          rintro e w' ⟨rfl, rfl⟩
          go_wp2_with fail
          refine g.mono ?_
          rintro e w1 ⟨vo, rfl, h1, hb1⟩
          have H1 := Lib.hid h1
          have HB1 := Lib.hid hb1
          have s := HS.out w1 v (H.out.2.2.below hb1)
          clear h1 hb1
          go_wp2_with fail
          refine s.mono ?_
          rintro e w2 ⟨vs, rfl, h2, hb2⟩
          have q := equal_same vo vs _ w2 (by omega) (H1.out.below hb2) h2
          have HB2 := Lib.hid (HB1.out.trans (hb2.mono HB1.out.size))
          clear h2 hb2
          go_wp2_with fail
          refine q.mono ?_
          rintro e w3 ⟨rfl, hb3⟩
          have HB3 := Lib.hid (HB2.out.trans (hb3.mono HB2.out.size))
          have n := any_is v xs w3 _ H.out.1 (H.out.2.2.below HB3.out) HA.out
          clear hb3
          go_wp2_with fail
          refine n.mono ?_
          rintro e w4 ⟨rfl, rfl⟩
          go_wp2_with fail
          go_ret
          exact ⟨rfl, HB3.out⟩
end Go.Proofs.YtooajjeikfmieaaDoor
