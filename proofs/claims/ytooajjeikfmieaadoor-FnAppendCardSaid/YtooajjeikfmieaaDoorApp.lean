/-
  What is proved here: the walk of the law FnAppend: it returns true for every two lists of strings, and below the heap's end the world is as it was. Conditions: the lists' lengths and the strings' sizes are ints.
-/
import Derived.Test.YtooajjeikfmieaaDoorTwice
namespace Go.Proofs.YtooajjeikfmieaaDoor
open Go.RowKit

theorem fits_append {xs ys : List ByteArray} (hx : ∀ x ∈ xs, x.size ≤ 2147483647) (hy : ∀ y ∈ ys, y.size ≤ 2147483647) (hl : xs.length + ys.length ≤ 2000) : fitsB (xs ++ ys) = true := by
  rw [fitsB, decide_eq_true (by simp; omega), Bool.true_and, List.all_eq_true]
  intro x h
  rcases List.mem_append.1 h with h | h
  · exact decide_eq_true (hx x h)
  · exact decide_eq_true (hy x h)
theorem items_append {fold : Bool} {xs ys : List ByteArray} (hx : ∀ x ∈ xs, okI fold x = true) (hy : ∀ y ∈ ys, okI fold y = true) : ∀ x ∈ xs ++ ys, okI fold x = true := fun x h => by
  rcases List.mem_append.1 h with h | h
  · exact hx x h
  · exact hy x h
theorem own_row {B : Nat} {w : World} {v : Value} {D : List ByteArray} (h : Own B w v D) : ∀ k, v.ownBlock = some k → B ≤ k := fun k hk => (World.ownsRow.lt h k hk).1
theorem lit_below (w : World) : Below w.heap.size w (w.alloc (.cells #[] 9)) := (Below.refl _ _).alloc (Nat.le_refl _) _

set_option maxHeartbeats 400000 in
theorem append_early (v vm : Value) (xs ys : List ByteArray) (fold nul : Bool) (w : World) (hn : xs.length ≤ 9223372036854775807) (hm : ys.length ≤ 9223372036854775807) (hv : Strs w v xs) (hvm : Strs w vm ys)
    (h : fitsB xs = false ∨ fitsB ys = false ∨ wellB fold xs = false ∨ wellB fold ys = false) :
    Calls Go.Proofs.Tryd.prog 5 #[.bool fold, .bool nul, v, vm] w fun e w' => e = .returned (.bool true) ∧ Below w.heap.size w w' := by
  cases hf : fitsB xs with
  | false =>
    have c := fits_is v xs w false hn hv hf
    clear hf hv h
    go_enter Tryd.func5, Tryd.ntmps5
    go_wp2_with fail
    refine c.mono ?_
    rintro e w' ⟨rfl, rfl⟩
    go_wp2_with fail
    go_ret
    exact ⟨rfl, Below.refl _ _⟩
  | true =>
    have c := fits_is v xs w true hn hv hf
    cases hg : fitsB ys with
    | false =>
      have d := fits_is vm ys w false hm hvm hg
      clear hf hg hv hvm h
      go_enter Tryd.func5, Tryd.ntmps5
      go_wp2_with fail
      refine c.mono ?_
      rintro e w' ⟨rfl, rfl⟩
      go_wp2_with fail
      refine d.mono ?_
      rintro e w' ⟨rfl, rfl⟩
      go_wp2_with fail
      go_ret
      exact ⟨rfl, Below.refl _ _⟩
    | true =>
      have d := fits_is vm ys w true hm hvm hg
      cases hw : wellB fold xs with
      | false =>
        have c2 := well_is v xs fold w false hf hv hw
        clear hf hg hv hvm hw h
        go_enter Tryd.func5, Tryd.ntmps5
        go_wp2_with fail
        refine c.mono ?_
        rintro e w' ⟨rfl, rfl⟩
        go_wp2_with fail
        refine d.mono ?_
        rintro e w' ⟨rfl, rfl⟩
        go_wp2_with fail
        refine c2.mono ?_
        rintro e w' ⟨rfl, rfl⟩
        go_wp2_with fail
        go_ret
        exact ⟨rfl, Below.refl _ _⟩
      | true =>
        have c2 := well_is v xs fold w true hf hv hw
        cases hu : wellB fold ys with
        | true =>
          rw [hf, hg, hw, hu] at h
          simp at h
        | false =>
          have d2 := well_is vm ys fold w false hg hvm hu
          clear hf hg hv hvm hw hu h
          go_enter Tryd.func5, Tryd.ntmps5
          go_wp2_with fail
          refine c.mono ?_
          rintro e w' ⟨rfl, rfl⟩
          go_wp2_with fail
          refine d.mono ?_
          rintro e w' ⟨rfl, rfl⟩
          go_wp2_with fail
          refine c2.mono ?_
          rintro e w' ⟨rfl, rfl⟩
          go_wp2_with fail
          refine d2.mono ?_
          rintro e w' ⟨rfl, rfl⟩
          go_wp2_with fail
          go_ret
          exact ⟨rfl, Below.refl _ _⟩

set_option maxHeartbeats 2000000 in
set_option maxRecDepth 100000 in
theorem append_T (v vm : Value) (xs ys : List ByteArray) (fold : Bool) (w : World) (hf : fitsB xs = true) (hg : fitsB ys = true) (hw : wellB fold xs = true) (hu : wellB fold ys = true) (hv : Strs w v xs) (hvm : Strs w vm ys) :
    Calls Go.Proofs.Tryd.prog 5 #[.bool fold, .bool true, v, vm] w fun e w' => e = .returned (.bool true) ∧ Below w.heap.size w w' := by
  have hfs := fits_size hf
  have hgs := fits_size hg
  have hws := well_items hw
  have hus := well_items hu
  have c := fits_is v xs w true (by omega) hv hf
  have d := fits_is vm ys w true (by omega) hvm hg
  have c2 := well_is v xs fold w true hf hv hw
  have d2 := well_is vm ys fold w true hg hvm hu
  have g := dedup_true v xs fold w hf hws.1 hv
  have hDl := dedS_length fold true xs
  have hl1 := hws.2
  have hl2 := hus.2
  have G1 := Lib.hid (fun w' v' (h : Strs w' v' (dedS fold true xs ++ ys)) => show Calls Go.Proofs.Tryd.prog 12 #[.bool fold, .bool true, v'] w' fun e w'' => ∃ vo, e = .returned (.tuple #[vo, .bool true]) ∧ Strs w'' vo (dedS fold true (xs ++ ys)) ∧ Below w'.heap.size w' w'' from by
    have := dedup_true v' _ fold w' (fits_append (fun x hx => hfs.2 x (dedS_mem hx)) hgs.2 (by omega)) (items_append (fun x hx => hws.1 x (dedS_mem hx)) hus.1) h
    rwa [show dedS fold true (dedS fold true xs ++ ys) = dedS fold true (xs ++ ys) from Plain.ded_append xs ys] at this)
  have G2 := Lib.hid (fun w' v' (h : Strs w' v' (xs ++ ys)) => show Calls Go.Proofs.Tryd.prog 12 #[.bool fold, .bool true, v'] w' fun e w'' => ∃ vo, e = .returned (.tuple #[vo, .bool true]) ∧ Strs w'' vo (dedS fold true (xs ++ ys)) ∧ Below w'.heap.size w' w'' from by
    exact dedup_true v' _ fold w' (fits_append hfs.2 hgs.2 (by omega)) (items_append hws.1 hus.1) h)
  have H := Lib.hid (And.intro hf (And.intro hg (And.intro hv hvm)))
  have HL := Lib.hid (dedS_length fold true (xs ++ ys))
  have hap : (xs ++ ys).length = xs.length + ys.length := List.length_append
  have HAp := Lib.hid hap
  clear hf hg hw hu hv hvm hfs hgs hws hus hap
  go_enter Tryd.func5, Tryd.ntmps5
  go_wp2_with fail
  refine c.mono ?_
  rintro e w' ⟨rfl, rfl⟩
  go_wp2_with fail
  refine d.mono ?_
  rintro e w' ⟨rfl, rfl⟩
  go_wp2_with fail
  refine c2.mono ?_
  rintro e w' ⟨rfl, rfl⟩
  go_wp2_with fail
  refine d2.mono ?_
  rintro e w' ⟨rfl, rfl⟩
  go_wp2_with fail
  refine g.mono ?_
  rintro e w1 ⟨vo, rfl, h1, hb1⟩
  have HB1 := Lib.hid hb1
  have HV1 := Lib.hid (h1.below (lit_below w1))
  have HM1 := Lib.hid (H.out.2.2.2.below hb1)
  have HO1 := Lib.hid (own_lit w1 w1.heap.size (Nat.le_refl _))
  clear h1 hb1 c d c2 d2 g
  go_wp2_with (first | (at_builtin; refine wpList_append_strs rfl (.tmp 43) (.tmp 44) rfl w1.heap.size _ vo [] (dedS fold true xs) rfl HO1.out rfl HV1.out (by simp; omega) (by simp) ?_; intro v2 w2 ho2 hg2; have HB2 := Lib.hid ((lit_below w1).grown hg2 (by simp) (own_row HO1.out)); have HO2 := Lib.hid ho2; clear ho2 hg2) | (at_builtin; refine wpList_append_strs rfl (.tmp 45) (.tmp 46) rfl w1.heap.size v2 vm _ ys rfl HO2.out rfl (HM1.out.below HB2.out) (by simp; omega) (by have := HB2.out.size; omega) ?_; intro v3 w3 ho3 hg3; have HB3 := Lib.hid (HB2.out.grown hg3 HB2.out.size (own_row HO2.out)); have HO3 := Lib.hid ho3; clear ho3 hg3))
  refine (G1.out _ v3 HO3.out.strs).mono ?_
  rintro e w4 ⟨vg, rfl, h4, hb4⟩
  have HB4 := Lib.hid (HB1.out.trans ((HB3.out.mono HB1.out.size).trans (hb4.mono (Nat.le_trans HB1.out.size HB3.out.size))))
  have HV4 := Lib.hid h4
  have HE4 := Lib.hid ((H.out.2.2.1.below HB4.out).below (lit_below w4))
  have HM4 := Lib.hid (H.out.2.2.2.below HB4.out)
  have HO4 := Lib.hid (own_lit w4 w4.heap.size (Nat.le_refl _))
  clear h4 hb4
  go_wp2_with (first | (at_builtin; refine wpList_append_strs rfl (.tmp 54) (.tmp 55) rfl w4.heap.size _ v [] xs rfl HO4.out rfl HE4.out (by simp; omega) (by simp) ?_; intro v5 w5 ho5 hg5; have HB5 := Lib.hid ((lit_below w4).grown hg5 (by simp) (own_row HO4.out)); have HO5 := Lib.hid ho5; clear ho5 hg5) | (at_builtin; refine wpList_append_strs rfl (.tmp 56) (.tmp 57) rfl w4.heap.size v5 vm _ ys rfl HO5.out rfl (HM4.out.below HB5.out) (by simp; omega) (by have := HB5.out.size; omega) ?_; intro v6 w6 ho6 hg6; have HB6 := Lib.hid (HB5.out.grown hg6 HB5.out.size (own_row HO5.out)); have HO6 := Lib.hid ho6; clear ho6 hg6))
  refine (G2.out _ v6 HO6.out.strs).mono ?_
  rintro e w7 ⟨vw, rfl, h7, hb7⟩
  have HB7 := Lib.hid (HB4.out.trans ((HB6.out.mono HB4.out.size).trans (hb7.mono (Nat.le_trans HB4.out.size HB6.out.size))))
  have q := equal_same vg vw _ w7 (by have := HL.out; have := HAp.out; omega) (HV4.out.below (HB6.out.trans (hb7.mono HB6.out.size))) h7
  clear h7 hb7
  go_wp2_with fail
  refine q.mono ?_
  rintro e w8 ⟨rfl, hb8⟩
  have HB8 := Lib.hid (HB7.out.trans (hb8.mono HB7.out.size))
  clear hb8 q
  go_wp2_with fail
  go_ret
  exact ⟨rfl, HB8.out⟩

set_option maxHeartbeats 2000000 in
set_option maxRecDepth 100000 in
theorem append_FT (v vm : Value) (xs ys : List ByteArray) (fold : Bool) (w : World) (hf : fitsB xs = true) (hg : fitsB ys = true) (hw : wellB fold xs = true) (hu : wellB fold ys = true) (hv : Strs w v xs) (hvm : Strs w vm ys) (ha : xs.any nulS = true) :
    Calls Go.Proofs.Tryd.prog 5 #[.bool fold, .bool false, v, vm] w fun e w' => e = .returned (.bool true) ∧ Below w.heap.size w w' := by
  have hfs := fits_size hf
  have hgs := fits_size hg
  have hws := well_items hw
  have hus := well_items hu
  have c := fits_is v xs w true (by omega) hv hf
  have d := fits_is vm ys w true (by omega) hvm hg
  have c2 := well_is v xs fold w true hf hv hw
  have d2 := well_is vm ys fold w true hg hvm hu
  have g := dedup_false v xs fold w _ hf hws.1 hv ha
  have hDl := dedS_length fold false xs
  have hl1 := hws.2
  have hl2 := hus.2
  generalize hb : ys.any nulS = b at *
  have G1 := Lib.hid (fun w' v' (h : Strs w' v' (dedS fold false xs ++ ys)) => show Calls Go.Proofs.Tryd.prog 12 #[.bool fold, .bool false, v'] w' fun e w'' => ∃ vo, e = .returned (.tuple #[vo, .bool (!b)]) ∧ Strs w'' vo (dedS fold false (xs ++ ys)) ∧ Below w'.heap.size w' w'' from by
    have := dedup_false v' _ fold w' b (fits_append (fun x hx => hfs.2 x (dedS_mem hx)) hgs.2 (by omega)) (items_append (fun x hx => hws.1 x (dedS_mem hx)) hus.1) h (by rw [List.any_append, dedS_clean, hb, Bool.false_or])
    rwa [show dedS fold false (dedS fold false xs ++ ys) = dedS fold false (xs ++ ys) from Plain.ded_append xs ys] at this)
  have G2 := Lib.hid (fun w' v' (h : Strs w' v' (xs ++ ys)) => show Calls Go.Proofs.Tryd.prog 12 #[.bool fold, .bool false, v'] w' fun e w'' => ∃ vo, e = .returned (.tuple #[vo, .bool false]) ∧ Strs w'' vo (dedS fold false (xs ++ ys)) ∧ Below w'.heap.size w' w'' from by
    have := dedup_false v' _ fold w' (true || b) (fits_append hfs.2 hgs.2 (by omega)) (items_append hws.1 hus.1) h (by rw [List.any_append, ha, hb])
    simpa using this)
  have H := Lib.hid (And.intro hf (And.intro hg (And.intro hv hvm)))
  have HL := Lib.hid (dedS_length fold false (xs ++ ys))
  have HA := Lib.hid (And.intro ha hb)
  have hap : (xs ++ ys).length = xs.length + ys.length := List.length_append
  have HAp := Lib.hid hap
  clear hf hg hw hu hv hvm hfs hgs hws hus hap ha hb
  go_enter Tryd.func5, Tryd.ntmps5
  go_wp2_with fail
  refine c.mono ?_
  rintro e w' ⟨rfl, rfl⟩
  go_wp2_with fail
  refine d.mono ?_
  rintro e w' ⟨rfl, rfl⟩
  go_wp2_with fail
  refine c2.mono ?_
  rintro e w' ⟨rfl, rfl⟩
  go_wp2_with fail
  refine d2.mono ?_
  rintro e w' ⟨rfl, rfl⟩
  go_wp2_with fail
  refine g.mono ?_
  rintro e w1 ⟨vo, rfl, h1, hb1⟩
  have HB1 := Lib.hid hb1
  have HV1 := Lib.hid (h1.below (lit_below w1))
  have HM1 := Lib.hid (H.out.2.2.2.below hb1)
  have HO1 := Lib.hid (own_lit w1 w1.heap.size (Nat.le_refl _))
  clear h1 hb1 c d c2 d2 g
  go_wp2_with (first | (at_builtin; refine wpList_append_strs rfl (.tmp 43) (.tmp 44) rfl w1.heap.size _ vo [] (dedS fold false xs) rfl HO1.out rfl HV1.out (by simp; omega) (by simp) ?_; intro v2 w2 ho2 hg2; have HB2 := Lib.hid ((lit_below w1).grown hg2 (by simp) (own_row HO1.out)); have HO2 := Lib.hid ho2; clear ho2 hg2) | (at_builtin; refine wpList_append_strs rfl (.tmp 45) (.tmp 46) rfl w1.heap.size v2 vm _ ys rfl HO2.out rfl (HM1.out.below HB2.out) (by simp; omega) (by have := HB2.out.size; omega) ?_; intro v3 w3 ho3 hg3; have HB3 := Lib.hid (HB2.out.grown hg3 HB2.out.size (own_row HO2.out)); have HO3 := Lib.hid ho3; clear ho3 hg3))
  refine (G1.out _ v3 HO3.out.strs).mono ?_
  rintro e w4 ⟨vg, rfl, h4, hb4⟩
  have HB4 := Lib.hid (HB1.out.trans ((HB3.out.mono HB1.out.size).trans (hb4.mono (Nat.le_trans HB1.out.size HB3.out.size))))
  have HV4 := Lib.hid h4
  have HE4 := Lib.hid ((H.out.2.2.1.below HB4.out).below (lit_below w4))
  have HM4 := Lib.hid (H.out.2.2.2.below HB4.out)
  have HO4 := Lib.hid (own_lit w4 w4.heap.size (Nat.le_refl _))
  clear h4 hb4
  go_wp2_with (first | (at_builtin; refine wpList_append_strs rfl (.tmp 54) (.tmp 55) rfl w4.heap.size _ v [] xs rfl HO4.out rfl HE4.out (by simp; omega) (by simp) ?_; intro v5 w5 ho5 hg5; have HB5 := Lib.hid ((lit_below w4).grown hg5 (by simp) (own_row HO4.out)); have HO5 := Lib.hid ho5; clear ho5 hg5) | (at_builtin; refine wpList_append_strs rfl (.tmp 56) (.tmp 57) rfl w4.heap.size v5 vm _ ys rfl HO5.out rfl (HM4.out.below HB5.out) (by simp; omega) (by have := HB5.out.size; omega) ?_; intro v6 w6 ho6 hg6; have HB6 := Lib.hid (HB5.out.grown hg6 HB5.out.size (own_row HO5.out)); have HO6 := Lib.hid ho6; clear ho6 hg6))
  refine (G2.out _ v6 HO6.out.strs).mono ?_
  rintro e w7 ⟨vw, rfl, h7, hb7⟩
  have HB7 := Lib.hid (HB4.out.trans ((HB6.out.mono HB4.out.size).trans (hb7.mono (Nat.le_trans HB4.out.size HB6.out.size))))
  have q := equal_same vg vw _ w7 (by have := HL.out; have := HAp.out; omega) (HV4.out.below (HB6.out.trans (hb7.mono HB6.out.size))) h7
  clear h7 hb7
  go_wp2_with fail
  refine q.mono ?_
  rintro e w8 ⟨rfl, hb8⟩
  have HB8 := Lib.hid (HB7.out.trans (hb8.mono HB7.out.size))
  have n1 := any_is v xs w8 true H.out.1 (H.out.2.2.1.below HB8.out) HA.out.1
  have n2 := any_is vm ys w8 b H.out.2.1 (H.out.2.2.2.below HB8.out) HA.out.2
  clear hb8 q
  go_wp2_with fail
  refine n2.mono ?_
  rintro e w' ⟨rfl, rfl⟩
  go_wp2_with fail
  refine n1.mono ?_
  rintro e w' ⟨rfl, rfl⟩
  go_wp2_with fail
  go_ret
  exact ⟨rfl, HB8.out⟩

set_option maxHeartbeats 2000000 in
set_option maxRecDepth 100000 in
theorem append_FF (v vm : Value) (xs ys : List ByteArray) (fold : Bool) (w : World) (hf : fitsB xs = true) (hg : fitsB ys = true) (hw : wellB fold xs = true) (hu : wellB fold ys = true) (hv : Strs w v xs) (hvm : Strs w vm ys) (ha : xs.any nulS = false) :
    Calls Go.Proofs.Tryd.prog 5 #[.bool fold, .bool false, v, vm] w fun e w' => e = .returned (.bool true) ∧ Below w.heap.size w w' := by
  have hfs := fits_size hf
  have hgs := fits_size hg
  have hws := well_items hw
  have hus := well_items hu
  have c := fits_is v xs w true (by omega) hv hf
  have d := fits_is vm ys w true (by omega) hvm hg
  have c2 := well_is v xs fold w true hf hv hw
  have d2 := well_is vm ys fold w true hg hvm hu
  have g := dedup_false v xs fold w _ hf hws.1 hv ha
  have hDl := dedS_length fold false xs
  have hl1 := hws.2
  have hl2 := hus.2
  generalize hb : ys.any nulS = b at *
  have G1 := Lib.hid (fun w' v' (h : Strs w' v' (dedS fold false xs ++ ys)) => show Calls Go.Proofs.Tryd.prog 12 #[.bool fold, .bool false, v'] w' fun e w'' => ∃ vo, e = .returned (.tuple #[vo, .bool (!b)]) ∧ Strs w'' vo (dedS fold false (xs ++ ys)) ∧ Below w'.heap.size w' w'' from by
    have := dedup_false v' _ fold w' b (fits_append (fun x hx => hfs.2 x (dedS_mem hx)) hgs.2 (by omega)) (items_append (fun x hx => hws.1 x (dedS_mem hx)) hus.1) h (by rw [List.any_append, dedS_clean, hb, Bool.false_or])
    rwa [show dedS fold false (dedS fold false xs ++ ys) = dedS fold false (xs ++ ys) from Plain.ded_append xs ys] at this)
  have G2 := Lib.hid (fun w' v' (h : Strs w' v' (xs ++ ys)) => show Calls Go.Proofs.Tryd.prog 12 #[.bool fold, .bool false, v'] w' fun e w'' => ∃ vo, e = .returned (.tuple #[vo, .bool (!b)]) ∧ Strs w'' vo (dedS fold false (xs ++ ys)) ∧ Below w'.heap.size w' w'' from by
    have := dedup_false v' _ fold w' (false || b) (fits_append hfs.2 hgs.2 (by omega)) (items_append hws.1 hus.1) h (by rw [List.any_append, ha, hb])
    simpa using this)
  have H := Lib.hid (And.intro hf (And.intro hg (And.intro hv hvm)))
  have HL := Lib.hid (dedS_length fold false (xs ++ ys))
  have HA := Lib.hid (And.intro ha hb)
  have hap : (xs ++ ys).length = xs.length + ys.length := List.length_append
  have HAp := Lib.hid hap
  clear hf hg hw hu hv hvm hfs hgs hws hus hap ha hb
  go_enter Tryd.func5, Tryd.ntmps5
  go_wp2_with fail
  refine c.mono ?_
  rintro e w' ⟨rfl, rfl⟩
  go_wp2_with fail
  refine d.mono ?_
  rintro e w' ⟨rfl, rfl⟩
  go_wp2_with fail
  refine c2.mono ?_
  rintro e w' ⟨rfl, rfl⟩
  go_wp2_with fail
  refine d2.mono ?_
  rintro e w' ⟨rfl, rfl⟩
  go_wp2_with fail
  refine g.mono ?_
  rintro e w1 ⟨vo, rfl, h1, hb1⟩
  have HB1 := Lib.hid hb1
  have HV1 := Lib.hid (h1.below (lit_below w1))
  have HM1 := Lib.hid (H.out.2.2.2.below hb1)
  have HO1 := Lib.hid (own_lit w1 w1.heap.size (Nat.le_refl _))
  clear h1 hb1 c d c2 d2 g
  go_wp2_with (first | (at_builtin; refine wpList_append_strs rfl (.tmp 43) (.tmp 44) rfl w1.heap.size _ vo [] (dedS fold false xs) rfl HO1.out rfl HV1.out (by simp; omega) (by simp) ?_; intro v2 w2 ho2 hg2; have HB2 := Lib.hid ((lit_below w1).grown hg2 (by simp) (own_row HO1.out)); have HO2 := Lib.hid ho2; clear ho2 hg2) | (at_builtin; refine wpList_append_strs rfl (.tmp 45) (.tmp 46) rfl w1.heap.size v2 vm _ ys rfl HO2.out rfl (HM1.out.below HB2.out) (by simp; omega) (by have := HB2.out.size; omega) ?_; intro v3 w3 ho3 hg3; have HB3 := Lib.hid (HB2.out.grown hg3 HB2.out.size (own_row HO2.out)); have HO3 := Lib.hid ho3; clear ho3 hg3))
  refine (G1.out _ v3 HO3.out.strs).mono ?_
  rintro e w4 ⟨vg, rfl, h4, hb4⟩
  have HB4 := Lib.hid (HB1.out.trans ((HB3.out.mono HB1.out.size).trans (hb4.mono (Nat.le_trans HB1.out.size HB3.out.size))))
  have HV4 := Lib.hid h4
  have HE4 := Lib.hid ((H.out.2.2.1.below HB4.out).below (lit_below w4))
  have HM4 := Lib.hid (H.out.2.2.2.below HB4.out)
  have HO4 := Lib.hid (own_lit w4 w4.heap.size (Nat.le_refl _))
  clear h4 hb4
  go_wp2_with (first | (at_builtin; refine wpList_append_strs rfl (.tmp 54) (.tmp 55) rfl w4.heap.size _ v [] xs rfl HO4.out rfl HE4.out (by simp; omega) (by simp) ?_; intro v5 w5 ho5 hg5; have HB5 := Lib.hid ((lit_below w4).grown hg5 (by simp) (own_row HO4.out)); have HO5 := Lib.hid ho5; clear ho5 hg5) | (at_builtin; refine wpList_append_strs rfl (.tmp 56) (.tmp 57) rfl w4.heap.size v5 vm _ ys rfl HO5.out rfl (HM4.out.below HB5.out) (by simp; omega) (by have := HB5.out.size; omega) ?_; intro v6 w6 ho6 hg6; have HB6 := Lib.hid (HB5.out.grown hg6 HB5.out.size (own_row HO5.out)); have HO6 := Lib.hid ho6; clear ho6 hg6))
  refine (G2.out _ v6 HO6.out.strs).mono ?_
  rintro e w7 ⟨vw, rfl, h7, hb7⟩
  have HB7 := Lib.hid (HB4.out.trans ((HB6.out.mono HB4.out.size).trans (hb7.mono (Nat.le_trans HB4.out.size HB6.out.size))))
  have q := equal_same vg vw _ w7 (by have := HL.out; have := HAp.out; omega) (HV4.out.below (HB6.out.trans (hb7.mono HB6.out.size))) h7
  clear h7 hb7
  go_wp2_with fail
  refine q.mono ?_
  rintro e w8 ⟨rfl, hb8⟩
  have HB8 := Lib.hid (HB7.out.trans (hb8.mono HB7.out.size))
  have n1 := any_is v xs w8 false H.out.1 (H.out.2.2.1.below HB8.out) HA.out.1
  have n2 := any_is vm ys w8 b H.out.2.1 (H.out.2.2.2.below HB8.out) HA.out.2
  clear hb8 q
  go_wp2_with fail
  refine n2.mono ?_
  rintro e w' ⟨rfl, rfl⟩
  go_wp2_with fail
  refine n1.mono ?_
  rintro e w' ⟨rfl, rfl⟩
  go_wp2_with fail
  refine n2.mono ?_
  rintro e w' ⟨rfl, rfl⟩
  go_wp2_with fail
  go_ret
  exact ⟨rfl, HB8.out⟩

theorem append_walk (v vm : Value) (xs ys : List ByteArray) (fold nul : Bool) (w : World) (hn : xs.length ≤ 9223372036854775807) (hm : ys.length ≤ 9223372036854775807) (hv : Strs w v xs) (hvm : Strs w vm ys) :
    Calls Go.Proofs.Tryd.prog 5 #[.bool fold, .bool nul, v, vm] w fun e w' => e = .returned (.bool true) ∧ Below w.heap.size w w' := by
  by_cases h : fitsB xs = false ∨ fitsB ys = false ∨ wellB fold xs = false ∨ wellB fold ys = false
  · exact append_early v vm xs ys fold nul w hn hm hv hvm h
  · simp only [not_or, Bool.not_eq_false] at h
    obtain ⟨hf, hg, hw, hu⟩ := h
    cases nul with
    | true => exact append_T v vm xs ys fold w hf hg hw hu hv hvm
    | false =>
      cases ha : xs.any nulS with
      | true => exact append_FT v vm xs ys fold w hf hg hw hu hv hvm ha
      | false => exact append_FF v vm xs ys fold w hf hg hw hu hv hvm ha
end Go.Proofs.YtooajjeikfmieaaDoor
