/-
  What is proved here: the walk of the law FnWithin: it returns true for every list of strings, and below the heap's end the world is as it was. Conditions: the list's length and the strings' sizes are ints.
-/
import Derived.Test.YtooajjeikfmieaaDoorBase
import Derived.Test.YtooajjeikfmieaaDoorWithin
import Derived.Deep.QuietTactic
import Derived.BigQuiet
namespace Go.Proofs.YtooajjeikfmieaaDoor
open Go.RowKit

theorem Strs.form {w : World} {v : Value} {xs : List ByteArray} (h : Strs w v xs) : ∃ a cap, v = .slice a xs.length cap := by
  rcases h with ⟨rfl, a, cap, _, rfl⟩ | ⟨_, b, o, cap, rfl, _⟩
  · exact ⟨a, cap, rfl⟩
  · exact ⟨_, cap, rfl⟩
theorem Strs.full {w : World} {v : Value} {xs : List ByteArray} (h : Strs w v xs) (hne : xs ≠ []) : ∃ b o cap, v = .slice (some ⟨b, o, none⟩) xs.length cap ∧ b < w.heap.size ∧ StrsAt w b o xs := by
  rcases h with ⟨rfl, _⟩ | ⟨_, b, o, cap, rfl, _, _, hb, hc⟩
  · exact absurd rfl hne
  · exact ⟨b, o, cap, rfl, hb, hc⟩
theorem last_at {xs : List ByteArray} {x : ByteArray} (h : xs.getLast? = some x) : 0 < xs.length ∧ xs[xs.length - 1]? = some x := by
  rw [List.getLast?_eq_getElem?] at h
  refine ⟨?_, h⟩
  have := (List.getElem?_eq_some_iff.1 h).1
  omega

set_option maxHeartbeats 2000000 in
set_option maxRecDepth 100000 in
theorem within_walk (v : Value) (xs : List ByteArray) (fold nul : Bool) (w : World) (hn : xs.length ≤ 9223372036854775807) (hv : Strs w v xs) :
    Calls Go.Proofs.Tryd.prog 4 #[.bool fold, .bool nul, v] w fun e w' => e = .returned (.bool true) ∧ Below w.heap.size w w' := by
  cases hf : fitsB xs with
  | false =>
    have c := fits_is v xs w false hn hv hf
    clear hf hv
    go_enter Tryd.func4, Tryd.ntmps4
    go_wp2_with fail
    refine c.mono ?_
    rintro e w' ⟨rfl, rfl⟩
    go_wp2_with fail
    go_ret
    exact ⟨rfl, Below.refl _ _⟩
  | true =>
    have c := fits_is v xs w true hn hv hf
    cases hw : wellB fold xs with
    | false =>
      have d := well_is v xs fold w false hf hv hw
      clear hf hv hw
      go_enter Tryd.func4, Tryd.ntmps4
      go_wp2_with fail
      refine c.mono ?_
      rintro e w' ⟨rfl, rfl⟩
      go_wp2_with fail
      refine d.mono ?_
      rintro e w' ⟨rfl, rfl⟩
      go_wp2_with fail
      go_ret
      exact ⟨rfl, Below.refl _ _⟩
    | true =>
      have d := well_is v xs fold w true hf hv hw
      by_cases hne : xs = []
      · obtain ⟨a, cap, hvf⟩ := hv.form
        subst hne
        subst hvf
        clear hf hw hv
        go_enter Tryd.func4, Tryd.ntmps4
        go_wp2_with fail
        refine c.mono ?_
        rintro e w' ⟨rfl, rfl⟩
        go_wp2_with fail
        refine d.mono ?_
        rintro e w' ⟨rfl, rfl⟩
        go_wp2_with fail
        go_ret
        exact ⟨rfl, Below.refl _ _⟩
      · obtain ⟨b, o, cap, hvf, hb, hc⟩ := hv.full hne
        have hpos : 0 < xs.length := by
          have := List.length_pos_iff.2 hne
          omega
        cases ha : xs.any nulS with
        | true =>
          have n := any_is v xs w true hf hv ha
          have hlen : ((xs.length : Int) == 0) = false := by simp; omega
          subst hvf
          clear hf hw hv ha hc hne
          go_enter Tryd.func4, Tryd.ntmps4
          go_wp2_with fail
          refine c.mono ?_
          rintro e w' ⟨rfl, rfl⟩
          go_wp2_with fail
          refine d.mono ?_
          rintro e w' ⟨rfl, rfl⟩
          go_wp2_with fail
          refine n.mono ?_
          rintro e w' ⟨rfl, rfl⟩
          go_wp2_with fail
          go_ret
          exact ⟨rfl, Below.refl _ _⟩
        | false =>
          have n := any_is v xs w false hf hv ha
          have hs1 := (fits_size hf).1
          have hbad : ∀ x ∈ xs, badB nul x = false := fun x hx => by
            rw [List.any_eq_false] at ha
            simp [badB, ha x hx]
          have g : Calls Go.Proofs.Tryd.prog 12 #[.bool fold, .bool nul, v] w fun e w' => ∃ vo, e = .returned (.tuple #[vo, .bool true]) ∧ Strs w' vo (dedS fold nul xs) ∧ Below w.heap.size w w' := by
            cases nul with
            | true => exact dedup_true v xs fold w hf (well_items hw).1 hv
            | false => exact dedup_false v xs fold w false hf (well_items hw).1 hv ha
          obtain ⟨x, hlast⟩ : ∃ x, xs.getLast? = some x := ⟨_, List.getLast?_eq_some_getLast hne⟩
          have hl2 := Plain.ded_last (key := keyO fold) (bad := badB nul) hlast (hbad x (List.mem_of_getLast? hlast))
          have hX := last_at hlast
          have hD : 0 < (dedS fold nul xs).length ∧ (dedS fold nul xs)[(dedS fold nul xs).length - 1]? = some x := last_at hl2
          have hDl := dedS_length fold nul xs
          have HW := Lib.hid (Plain.within_of_sublist (Plain.ded_sublist (key := keyO fold) (bad := badB nul) xs))
          have hDne : dedS fold nul xs ≠ [] := fun e => by rw [e] at hD; simp at hD
          have HV := Lib.hid hv
          have HC := Lib.hid hc
          have HN := Lib.hid (And.intro hX.2 hD.2)
          have hD1 := hD.1
          subst hvf
          clear hf hw hv ha hc hlast hl2 hX hD hbad
          go_enter Tryd.func4, Tryd.ntmps4
          go_wp2_with fail
          refine c.mono ?_
          rintro e w' ⟨rfl, rfl⟩
          go_wp2_with fail
          refine d.mono ?_
          rintro e w' ⟨rfl, rfl⟩
          go_wp2_with fail
          refine n.mono ?_
          rintro e w' ⟨rfl, rfl⟩
          go_wp2_with fail
          refine g.mono ?_
          rintro e w1 ⟨vo, rfl, h1, hb1⟩
          have k1 : w1.cell? ⟨b, o + (xs.length - 1), none⟩ = some (.string x) := (HC.out.below hb1 hb) _ x HN.out.1
          have q : ∀ m, Calls Go.Proofs.Tryd.prog 16 #[vo, .slice (some ⟨b, o, none⟩) xs.length cap] (w1.drewN m) fun e w' => e = .returned (.bool true) ∧ w' = w1.drewN m := fun m => by
            have := within_any vo _ (dedS fold nul xs) xs (w1.drewN m) (by omega) hne (h1.below (below_draws (Below.refl _ _) m)) ((HV.out.below hb1).below (below_draws (Below.refl _ _) m))
            rw [show Plain.within (dedS fold nul xs) xs = true from HW.out] at this
            exact this.mono fun _ _ ⟨he, hw⟩ => ⟨he, hw.symm⟩
          obtain ⟨b1, o1, cap1, hvf1, hb1lt, hc1⟩ := h1.full hDne
          have k2 := hc1 _ x HN.out.2
          subst hvf1
          have HB1 := Lib.hid hb1
          generalize hL : (dedS fold nul xs).length = L at *
          clear h1 hc1 hb1 hL hne hDne
          have i1 : (0 : Int) < (L : Int) := by omega
          have i2 : (0 : Int) ≤ (L : Int) - 1 := by omega
          have i3 : ((L : Int) - 1).toNat = L - 1 := by omega
          have i4 : (0 : Int) ≤ (xs.length : Int) - 1 := by omega
          have i5 : ((xs.length : Int) - 1).toNat = xs.length - 1 := by omega
          go_wp2_with fail
          go_quiet ((go_at_call 16; exact Calls.quiet_of_same (q _)))
          go_wp2
          go_ret
          exact ⟨rfl, below_draws HB1.out _⟩
end Go.Proofs.YtooajjeikfmieaaDoor
