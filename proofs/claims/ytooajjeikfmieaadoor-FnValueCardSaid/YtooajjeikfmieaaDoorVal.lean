/-
  What is proved here: the walk of the law FnValue: it returns true for every list of strings and every key, and below the heap's end the world is as it was. Conditions: the list's length is an int, the key takes at most 2^47 bytes.
-/
import Derived.Test.YtooajjeikfmieaaDoorBase
import Derived.Test.YtooajjeikfmieaaDoorValue
import Derived.Test.YtooajjeikfmieaaDoorTwice
namespace Go.Proofs.YtooajjeikfmieaaDoor
open Go.RowKit

theorem hit_key (fold : Bool) (key x : ByteArray) : hitB fold key x = decide (keyO fold x = some key.data.toList) := by
  cases hx : hasK x with
  | false => simp [hitB, hx, keyO_no hx]
  | true =>
    rw [keyO_yes hx, hitB, hx, Bool.true_and, Lib.toList_data, Lib.toList_data, Bool.eq_iff_iff]
    simp
/-- of the items with the key the last one alone is left -/
theorem hits_left (fold : Bool) (key : ByteArray) (xs : List ByteArray) : (dedS fold true xs).filter (hitB fold key) = (lastM fold key xs).toList := by
  have h := Plain.ded_filter (key := keyO fold) (bad := badB true) key.data.toList xs
  have e : (hitB fold key) = fun x => decide (keyO fold x = some key.data.toList) := funext fun x => hit_key fold key x
  rw [lastM, e]
  simpa [badB, dedS] using h

/-- how many hits there are among the first j that are left -/
def cnt (fold : Bool) (key : ByteArray) (D : List ByteArray) (j : Nat) : Nat := ((D.take j).filter (hitB fold key)).length
theorem cnt_hit {fold : Bool} {key x : ByteArray} {D : List ByteArray} {j : Nat} (hx : D[j]? = some x) (h : hitB fold key x = true) : cnt fold key D (j + 1) = cnt fold key D j + 1 := by
  rw [cnt, take_next hx, List.filter_append]
  simp [h, cnt]
theorem cnt_miss {fold : Bool} {key x : ByteArray} {D : List ByteArray} {j : Nat} (hx : D[j]? = some x) (h : hitB fold key x = false) : cnt fold key D (j + 1) = cnt fold key D j := by
  rw [cnt, take_next hx, List.filter_append]
  simp [h, cnt]
theorem cnt_le (fold : Bool) (key : ByteArray) (xs : List ByteArray) (j : Nat) : cnt fold key (dedS fold true xs) j ≤ 1 := by
  have h1 : cnt fold key (dedS fold true xs) j ≤ ((dedS fold true xs).filter (hitB fold key)).length := ((List.take_sublist j _).filter _).length_le
  rw [hits_left] at h1
  have h2 : (lastM fold key xs).toList.length ≤ 1 := by cases lastM fold key xs <;> simp
  omega
theorem cnt_end {fold : Bool} {key : ByteArray} {xs : List ByteArray} {j : Nat} (h : (dedS fold true xs).length ≤ j) : (cnt fold key (dedS fold true xs) j = 0 ∧ (lastM fold key xs).isSome = false) ∨ (cnt fold key (dedS fold true xs) j = 1 ∧ (lastM fold key xs).isSome = true) := by
  rw [cnt, List.take_of_length_le h, hits_left]
  cases lastM fold key xs <;> simp
theorem hit_is {fold : Bool} {key x : ByteArray} {xs : List ByteArray} (hx : x ∈ dedS fold true xs) (h : hitB fold key x = true) : lastM fold key xs = some x := by
  have : x ∈ (dedS fold true xs).filter (hitB fold key) := List.mem_filter.2 ⟨hx, h⟩
  rw [hits_left] at this
  simpa using this

theorem sign_has (s : ByteArray) (w : World) (hs : s.size ≤ 9223372036854775807) (h : hasK s = true) :
    Calls Go.Proofs.Tryd.prog 11 #[.string s] w fun e w' => (∃ p : Nat, e = .returned (.int .i64 p)) ∧ w = w' :=
  (sign_yes s w hs h).mono fun _ _ ⟨he, hw⟩ => ⟨⟨_, he⟩, hw⟩
/-- spec.Lower, its answer under a name -/
theorem lower_is (s : ByteArray) (w : World) (hs : s.size ≤ 140737488355328) :
    ∃ l : ByteArray, Calls Go.Proofs.Tryd.prog 10 #[.string s] w fun e w' => e = .returned (.string l) ∧ Below w.heap.size w w' := ⟨_, lower_any s w hs⟩

set_option maxHeartbeats 2000000 in
set_option maxRecDepth 100000 in
/-- where the law asks nothing -/
theorem value_early_true (v : Value) (xs : List ByteArray) (key : ByteArray) (w : World) (hn : xs.length ≤ 9223372036854775807) (hkey : key.size ≤ 140737488355328) (hv : Strs w v xs) :
    (fitsB xs = true → key.size ≤ 2147483647 → wellB true xs = true → hasK key = false → Calls Go.Proofs.Tryd.prog 3 #[.bool true, v, .string key] w fun e w' => e = .returned (.bool true) ∧ Below w.heap.size w w') →
    Calls Go.Proofs.Tryd.prog 3 #[.bool true, v, .string key] w fun e w' => e = .returned (.bool true) ∧ Below w.heap.size w w' := by
  intro hmain
  have HM := Lib.hid hmain
  clear hmain
  cases hf : fitsB xs with
  | false =>
    have c := fits_is v xs w false hn hv hf
    clear hf hv
    go_enter Tryd.func3, Tryd.ntmps3
    go_wp2_with fail
    refine c.mono ?_
    rintro e w' ⟨rfl, rfl⟩
    go_wp2_with fail
    go_ret
    exact ⟨rfl, Below.refl _ _⟩
  | true =>
    have c := fits_is v xs w true hn hv hf
    by_cases hk : key.size ≤ 2147483647
    · cases hw : wellB true xs with
      | false =>
        have d := well_is v xs true w false hf hv hw
        clear hf hv hw
        go_enter Tryd.func3, Tryd.ntmps3
        go_wp2_with fail
        refine c.mono ?_
        rintro e w' ⟨rfl, rfl⟩
        go_wp2_with fail
        refine d.mono ?_
        rintro e w' ⟨rfl, rfl⟩
        go_wp2_with fail
        go_ret
        exact ⟨rfl, Below.refl _ _⟩
      | true =>
        by_cases hK : hasK key = true
        · have d := well_is v xs true w true hf hv hw
          have s := fun w' => sign_has key w' (by omega) hK
          obtain ⟨l, lo⟩ := lower_is key w hkey
          clear hf hv hw hK
          cases hl : (l.toList == key.toList) with
          | false =>
            go_enter Tryd.func3, Tryd.ntmps3
            go_wp2_with fail
            refine c.mono ?_
            rintro e w' ⟨rfl, rfl⟩
            go_wp2_with fail
            refine d.mono ?_
            rintro e w' ⟨rfl, rfl⟩
            go_wp2_with fail
            refine lo.mono ?_
            rintro e w2 ⟨rfl, hb2⟩
            have HB2 := Lib.hid hb2
            clear hb2
            go_wp2_with fail
            go_ret
            exact ⟨rfl, HB2.out⟩
          | true =>
            go_enter Tryd.func3, Tryd.ntmps3
            go_wp2_with fail
            refine c.mono ?_
            rintro e w' ⟨rfl, rfl⟩
            go_wp2_with fail
            refine d.mono ?_
            rintro e w' ⟨rfl, rfl⟩
            go_wp2_with fail
            refine lo.mono ?_
            rintro e w2 ⟨rfl, hb2⟩
            have HB2 := Lib.hid hb2
            clear hb2
            go_wp2_with fail
            refine (s _).mono ?_
            rintro e w3 ⟨⟨p, rfl⟩, rfl⟩
            go_wp2_with fail
            go_ret
            exact ⟨rfl, HB2.out⟩
        · exact HM.out hf hk hw (by simpa using hK)
    · have hk' : 2147483647 < key.size := by omega
      clear hf hv hk
      go_enter Tryd.func3, Tryd.ntmps3
      go_wp2_with fail
      refine c.mono ?_
      rintro e w' ⟨rfl, rfl⟩
      go_wp2_with fail
      go_ret
      exact ⟨rfl, Below.refl _ _⟩

set_option maxHeartbeats 4000000 in
set_option maxRecDepth 100000 in
theorem value_main_true (v : Value) (xs : List ByteArray) (key : ByteArray) (w : World) (hn : xs.length ≤ 9223372036854775807) (hv : Strs w v xs) (hf : fitsB xs = true) (hk : key.size ≤ 2147483647) (hw : wellB true xs = true) (hK : hasK key = false) :
    Calls Go.Proofs.Tryd.prog 3 #[.bool true, v, .string key] w fun e w' => e = .returned (.bool true) ∧ Below w.heap.size w w' := by
  have hfs := fits_size hf
  have hws := well_items hw
  have c := fits_is v xs w true hn hv hf
  have d := well_is v xs true w true hf hv hw
  have s := fun w' => sign_no key w' (by omega) hK
  have HG := Lib.hid (fun w' (h : Strs w' v xs) => dedup_true v xs true w' hf hws.1 h)
  have HVal := Lib.hid (fun w' (h : Strs w' v xs) => value_any v xs key true w' hn (fun x hx => by have := hfs.2 x hx; omega) h)
  have hDl := dedS_length true true xs
  have hl1 := hws.2
  have HZ := Lib.hid (fun x (hx : x ∈ dedS true true xs) => hfs.2 x (dedS_mem hx))
  have HV := Lib.hid hv
  have HE := Lib.hid (fun j (h : (dedS true true xs).length ≤ j) => cnt_end (fold := true) (key := key) h)
  have HI := Lib.hid (fun x (hx : x ∈ dedS true true xs) (h : hitB true key x = true) => hit_is hx h)
  have HC := Lib.hid (cnt_le true key xs)
  obtain ⟨l, lo⟩ := lower_is key w (by omega)
  clear hv hf hw hK hfs hws
  cases hl : (l.toList == key.toList) with
  | false =>
    go_enter Tryd.func3, Tryd.ntmps3
    go_wp2_with fail
    refine c.mono ?_
    rintro e w' ⟨rfl, rfl⟩
    go_wp2_with fail
    refine d.mono ?_
    rintro e w' ⟨rfl, rfl⟩
    go_wp2_with fail
    refine lo.mono ?_
    rintro e w2 ⟨rfl, hb2⟩
    have HB2 := Lib.hid hb2
    clear hb2
    go_wp2_with fail
    go_ret
    exact ⟨rfl, HB2.out⟩
  | true =>
  go_enter Tryd.func3, Tryd.ntmps3
  go_wp2_with fail
  refine c.mono ?_
  rintro e w' ⟨rfl, rfl⟩
  go_wp2_with fail
  refine d.mono ?_
  rintro e w' ⟨rfl, rfl⟩
  go_wp2_with fail
  refine lo.mono ?_
  rintro e w2 ⟨rfl, hb2⟩
  have HB2 := Lib.hid hb2
  clear hb2
  go_wp2_with fail
  refine (s _).mono ?_
  rintro e w3 ⟨rfl, rfl⟩
  go_wp2_with fail
  refine (HG.out _ (HV.out.below HB2.out)).mono ?_
  rintro e w4 ⟨vo, rfl, h4, hb4⟩
  have HB4 := Lib.hid (HB2.out.trans (hb4.mono HB2.out.size))
  have HO4 := Lib.hid h4
  clear h4 hb4 c d s
  go_wp2_with fail
  refine (HVal.out _ (HV.out.below HB4.out)).mono ?_
  rintro e w5 ⟨rfl, hb5⟩
  have HB5 := Lib.hid (HB4.out.trans (hb5.mono HB4.out.size))
  have h5 := HO4.out.below hb5
  clear hb5
  generalize hO : (lastM true key xs).isSome = O at *
  generalize hWv : valS (lastM true key xs) = want at *
  have HWv := Lib.hid hWv
  clear hO hWv
  rcases h5 with ⟨hD0, a, cap, _, rfl⟩ | ⟨_, b, o, cap, rfl, _, _, hblt, hc⟩
  · obtain rfl : O = false := by
      rcases HE.out 0 (by rw [hD0]; exact Nat.le_refl _) with ⟨_, h⟩ | ⟨h, _⟩
      · exact h
      · simp [cnt] at h
    clear hD0
    go_wp2_with fail
    refine wp_loop_rounds 1 ?_
    rw [rounds_succ]
    go_wp2_with fail
    go_ret
    exact ⟨rfl, HB5.out⟩
  · have HC5 := Lib.hid hc
    clear hc
    generalize hD : dedS true true xs = D at *
    clear hD
    go_wp2_with fail
    go_loopw [11, 57] (fun nn i wr => ∃ j : Nat, j ≤ D.length ∧ i = .int .i64 j ∧ nn = .int .i64 (cnt true key D j) ∧ Below w5.heap.size w5 wr) (fun _ i _ => D.length - (intOf i).toNat)
    case atStart => exact ⟨0, Nat.zero_le _, rfl, rfl, Below.refl _ _⟩
    case round =>
      obtain ⟨j, hj, rfl, rfl, hbr⟩ := hrel
      have hc1 : cnt true key D j ≤ 1 := HC.out j
      by_cases hlt : j < D.length
      · obtain ⟨x, hx⟩ := getElem?_of_lt hlt
        have hxm := List.mem_of_getElem? hx
        have hcell : wr.cell? ⟨b, o + j, none⟩ = some (.string x) := (HC5.out.below hbr hblt) j x hx
        have hsz := HZ.out x hxm
        have HBr := Lib.hid hbr
        have HHit := Lib.hid (fun h => cnt_hit (fold := true) (key := key) hx h)
        have HMiss := Lib.hid (fun h => cnt_miss (fold := true) (key := key) hx h)
        have HLast := Lib.hid (fun h => HI.out x hxm h)
        have HHB := Lib.hid (show hitB true key x = (hasK x && ((keyS true x).toList == key.toList)) from rfl)
        have c := key_any x true wr (by omega)
        have sy := fun (h : hasK x = true) w' => sign_yes x w' (by omega) h
        have hsg : hasK x = true → sg x.data.toList < x.size := fun h => by simpa [hasK] using h
        have HVl := Lib.hid (show valOf x = x.extract (sg x.data.toList + 1) x.size from rfl)
        clear hx hxm hbr
        generalize hm : cnt true key D j = m at *
        clear hm
        generalize keyS true x = kk at c HHB
        cases hh : hasK x with
        | false =>
          have HM := Lib.hid (HMiss.out (by rw [HHB.out, hh]; rfl))
          rw [hh] at c
          clear hh sy hsg
          go_wp2_with fail
          refine c.mono ?_
          rintro e w6 ⟨rfl, hb6⟩
          have HB6 := Lib.hid hb6
          clear hb6
          go_wp2_with fail
          go_roundw
          case rel => exact ⟨j + 1, by omega, by go_num, by rw [HM.out], HBr.out.trans (HB6.out.mono HBr.out.size)⟩
          case measure => simp [intOf]; omega
        | true =>
          have hlt2 := hsg hh
          have sy2 := fun w' => sy hh w'
          cases he : (kk.toList == key.toList) with
          | false =>
            have HM := Lib.hid (HMiss.out (by rw [HHB.out, hh, he]; rfl))
            rw [hh] at c
            clear hh sy hsg sy2
            go_wp2_with fail
            refine c.mono ?_
            rintro e w6 ⟨rfl, hb6⟩
            have HB6 := Lib.hid hb6
            clear hb6
            go_wp2_with fail
            go_roundw
            case rel => exact ⟨j + 1, by omega, by go_num, by rw [HM.out], HBr.out.trans (HB6.out.mono HBr.out.size)⟩
            case measure => simp [intOf]; omega
          | true =>
            have hhit : hitB true key x = true := by rw [HHB.out, hh, he]; rfl
            have HM := Lib.hid (HHit.out hhit)
            have hcmp : ((x.extract (sg x.data.toList + 1) x.size).toList == want.toList) = true := by
              rw [← HWv.out, HLast.out hhit, ← HVl.out]
              exact beq_self_eq_true _
            rw [hh] at c
            clear hh sy hsg hhit
            generalize sg x.data.toList = n at sy2 hlt2 hcmp HVl
            clear HVl
            go_wp2_with fail
            refine c.mono ?_
            rintro e w6 ⟨rfl, hb6⟩
            have HB6 := Lib.hid hb6
            clear hb6
            go_wp2_with fail
            refine (sy2 _).mono ?_
            rintro e w7 ⟨rfl, rfl⟩
            go_wp2_with fail
            go_roundw
            case rel => exact ⟨j + 1, by omega, by go_num, by rw [HM.out]; go_num, HBr.out.trans (HB6.out.mono HBr.out.size)⟩
            case measure => simp [intOf]; omega
      · have hend := HE.out j (by omega)
        have HR := Lib.hid (HB5.out.trans (hbr.mono HB5.out.size))
        clear hbr hc1
        generalize hm : cnt true key D j = m at *
        clear hm
        rcases hend with ⟨rfl, rfl⟩ | ⟨rfl, rfl⟩
        · go_wp2_with fail
          go_ret
          exact ⟨rfl, HR.out⟩
        · go_wp2_with fail
          go_ret
          exact ⟨rfl, HR.out⟩

set_option maxHeartbeats 2000000 in
set_option maxRecDepth 100000 in
/-- where the law asks nothing -/
theorem value_early_false (v : Value) (xs : List ByteArray) (key : ByteArray) (w : World) (hn : xs.length ≤ 9223372036854775807) (hkey : key.size ≤ 140737488355328) (hv : Strs w v xs) :
    (fitsB xs = true → key.size ≤ 2147483647 → wellB false xs = true → hasK key = false → Calls Go.Proofs.Tryd.prog 3 #[.bool false, v, .string key] w fun e w' => e = .returned (.bool true) ∧ Below w.heap.size w w') →
    Calls Go.Proofs.Tryd.prog 3 #[.bool false, v, .string key] w fun e w' => e = .returned (.bool true) ∧ Below w.heap.size w w' := by
  intro hmain
  have HM := Lib.hid hmain
  clear hmain
  cases hf : fitsB xs with
  | false =>
    have c := fits_is v xs w false hn hv hf
    clear hf hv
    go_enter Tryd.func3, Tryd.ntmps3
    go_wp2_with fail
    refine c.mono ?_
    rintro e w' ⟨rfl, rfl⟩
    go_wp2_with fail
    go_ret
    exact ⟨rfl, Below.refl _ _⟩
  | true =>
    have c := fits_is v xs w true hn hv hf
    by_cases hk : key.size ≤ 2147483647
    · cases hw : wellB false xs with
      | false =>
        have d := well_is v xs false w false hf hv hw
        clear hf hv hw
        go_enter Tryd.func3, Tryd.ntmps3
        go_wp2_with fail
        refine c.mono ?_
        rintro e w' ⟨rfl, rfl⟩
        go_wp2_with fail
        refine d.mono ?_
        rintro e w' ⟨rfl, rfl⟩
        go_wp2_with fail
        go_ret
        exact ⟨rfl, Below.refl _ _⟩
      | true =>
        by_cases hK : hasK key = true
        · have d := well_is v xs false w true hf hv hw
          have s := fun w' => sign_has key w' (by omega) hK
          clear hf hv hw hK
          go_enter Tryd.func3, Tryd.ntmps3
          go_wp2_with fail
          refine c.mono ?_
          rintro e w' ⟨rfl, rfl⟩
          go_wp2_with fail
          refine d.mono ?_
          rintro e w' ⟨rfl, rfl⟩
          go_wp2_with fail
          refine (s _).mono ?_
          rintro e w3 ⟨⟨p, rfl⟩, rfl⟩
          go_wp2_with fail
          go_ret
          exact ⟨rfl, Below.refl _ _⟩
        · exact HM.out hf hk hw (by simpa using hK)
    · have hk' : 2147483647 < key.size := by omega
      clear hf hv hk
      go_enter Tryd.func3, Tryd.ntmps3
      go_wp2_with fail
      refine c.mono ?_
      rintro e w' ⟨rfl, rfl⟩
      go_wp2_with fail
      go_ret
      exact ⟨rfl, Below.refl _ _⟩

set_option maxHeartbeats 4000000 in
set_option maxRecDepth 100000 in
theorem value_main_false (v : Value) (xs : List ByteArray) (key : ByteArray) (w : World) (hn : xs.length ≤ 9223372036854775807) (hv : Strs w v xs) (hf : fitsB xs = true) (hk : key.size ≤ 2147483647) (hw : wellB false xs = true) (hK : hasK key = false) :
    Calls Go.Proofs.Tryd.prog 3 #[.bool false, v, .string key] w fun e w' => e = .returned (.bool true) ∧ Below w.heap.size w w' := by
  have hfs := fits_size hf
  have hws := well_items hw
  have c := fits_is v xs w true hn hv hf
  have d := well_is v xs false w true hf hv hw
  have s := fun w' => sign_no key w' (by omega) hK
  have HG := Lib.hid (fun w' (h : Strs w' v xs) => dedup_true v xs false w' hf hws.1 h)
  have HVal := Lib.hid (fun w' (h : Strs w' v xs) => value_any v xs key false w' hn (fun x hx => by have := hfs.2 x hx; omega) h)
  have hDl := dedS_length false true xs
  have hl1 := hws.2
  have HZ := Lib.hid (fun x (hx : x ∈ dedS false true xs) => hfs.2 x (dedS_mem hx))
  have HV := Lib.hid hv
  have HE := Lib.hid (fun j (h : (dedS false true xs).length ≤ j) => cnt_end (fold := false) (key := key) h)
  have HI := Lib.hid (fun x (hx : x ∈ dedS false true xs) (h : hitB false key x = true) => hit_is hx h)
  have HC := Lib.hid (cnt_le false key xs)
  clear hv hf hw hK hfs hws
  go_enter Tryd.func3, Tryd.ntmps3
  go_wp2_with fail
  refine c.mono ?_
  rintro e w' ⟨rfl, rfl⟩
  go_wp2_with fail
  refine d.mono ?_
  rintro e w' ⟨rfl, rfl⟩
  go_wp2_with fail
  have HB2 := Lib.hid (Below.refl w.heap.size w)
  refine (s _).mono ?_
  rintro e w3 ⟨rfl, rfl⟩
  go_wp2_with fail
  refine (HG.out _ (HV.out.below HB2.out)).mono ?_
  rintro e w4 ⟨vo, rfl, h4, hb4⟩
  have HB4 := Lib.hid (HB2.out.trans (hb4.mono HB2.out.size))
  have HO4 := Lib.hid h4
  clear h4 hb4 c d s
  go_wp2_with fail
  refine (HVal.out _ (HV.out.below HB4.out)).mono ?_
  rintro e w5 ⟨rfl, hb5⟩
  have HB5 := Lib.hid (HB4.out.trans (hb5.mono HB4.out.size))
  have h5 := HO4.out.below hb5
  clear hb5
  generalize hO : (lastM false key xs).isSome = O at *
  generalize hWv : valS (lastM false key xs) = want at *
  have HWv := Lib.hid hWv
  clear hO hWv
  rcases h5 with ⟨hD0, a, cap, _, rfl⟩ | ⟨_, b, o, cap, rfl, _, _, hblt, hc⟩
  · obtain rfl : O = false := by
      rcases HE.out 0 (by rw [hD0]; exact Nat.le_refl _) with ⟨_, h⟩ | ⟨h, _⟩
      · exact h
      · simp [cnt] at h
    clear hD0
    go_wp2_with fail
    refine wp_loop_rounds 1 ?_
    rw [rounds_succ]
    go_wp2_with fail
    go_ret
    exact ⟨rfl, HB5.out⟩
  · have HC5 := Lib.hid hc
    clear hc
    generalize hD : dedS false true xs = D at *
    clear hD
    go_wp2_with fail
    go_loopw [11, 57] (fun nn i wr => ∃ j : Nat, j ≤ D.length ∧ i = .int .i64 j ∧ nn = .int .i64 (cnt false key D j) ∧ Below w5.heap.size w5 wr) (fun _ i _ => D.length - (intOf i).toNat)
    case atStart => exact ⟨0, Nat.zero_le _, rfl, rfl, Below.refl _ _⟩
    case round =>
      obtain ⟨j, hj, rfl, rfl, hbr⟩ := hrel
      have hc1 : cnt false key D j ≤ 1 := HC.out j
      by_cases hlt : j < D.length
      · obtain ⟨x, hx⟩ := getElem?_of_lt hlt
        have hxm := List.mem_of_getElem? hx
        have hcell : wr.cell? ⟨b, o + j, none⟩ = some (.string x) := (HC5.out.below hbr hblt) j x hx
        have hsz := HZ.out x hxm
        have HBr := Lib.hid hbr
        have HHit := Lib.hid (fun h => cnt_hit (fold := false) (key := key) hx h)
        have HMiss := Lib.hid (fun h => cnt_miss (fold := false) (key := key) hx h)
        have HLast := Lib.hid (fun h => HI.out x hxm h)
        have HHB := Lib.hid (show hitB false key x = (hasK x && ((keyS false x).toList == key.toList)) from rfl)
        have c := key_any x false wr (by omega)
        have sy := fun (h : hasK x = true) w' => sign_yes x w' (by omega) h
        have hsg : hasK x = true → sg x.data.toList < x.size := fun h => by simpa [hasK] using h
        have HVl := Lib.hid (show valOf x = x.extract (sg x.data.toList + 1) x.size from rfl)
        clear hx hxm hbr
        generalize hm : cnt false key D j = m at *
        clear hm
        generalize keyS false x = kk at c HHB
        cases hh : hasK x with
        | false =>
          have HM := Lib.hid (HMiss.out (by rw [HHB.out, hh]; rfl))
          rw [hh] at c
          clear hh sy hsg
          go_wp2_with fail
          refine c.mono ?_
          rintro e w6 ⟨rfl, hb6⟩
          have HB6 := Lib.hid hb6
          clear hb6
          go_wp2_with fail
          go_roundw
          case rel => exact ⟨j + 1, by omega, by go_num, by rw [HM.out], HBr.out.trans (HB6.out.mono HBr.out.size)⟩
          case measure => simp [intOf]; omega
        | true =>
          have hlt2 := hsg hh
          have sy2 := fun w' => sy hh w'
          cases he : (kk.toList == key.toList) with
          | false =>
            have HM := Lib.hid (HMiss.out (by rw [HHB.out, hh, he]; rfl))
            rw [hh] at c
            clear hh sy hsg sy2
            go_wp2_with fail
            refine c.mono ?_
            rintro e w6 ⟨rfl, hb6⟩
            have HB6 := Lib.hid hb6
            clear hb6
            go_wp2_with fail
            go_roundw
            case rel => exact ⟨j + 1, by omega, by go_num, by rw [HM.out], HBr.out.trans (HB6.out.mono HBr.out.size)⟩
            case measure => simp [intOf]; omega
          | true =>
            have hhit : hitB false key x = true := by rw [HHB.out, hh, he]; rfl
            have HM := Lib.hid (HHit.out hhit)
            have hcmp : ((x.extract (sg x.data.toList + 1) x.size).toList == want.toList) = true := by
              rw [← HWv.out, HLast.out hhit, ← HVl.out]
              exact beq_self_eq_true _
            rw [hh] at c
            clear hh sy hsg hhit
            generalize sg x.data.toList = n at sy2 hlt2 hcmp HVl
            clear HVl
            go_wp2_with fail
            refine c.mono ?_
            rintro e w6 ⟨rfl, hb6⟩
            have HB6 := Lib.hid hb6
            clear hb6
            go_wp2_with fail
            refine (sy2 _).mono ?_
            rintro e w7 ⟨rfl, rfl⟩
            go_wp2_with fail
            go_roundw
            case rel => exact ⟨j + 1, by omega, by go_num, by rw [HM.out]; go_num, HBr.out.trans (HB6.out.mono HBr.out.size)⟩
            case measure => simp [intOf]; omega
      · have hend := HE.out j (by omega)
        have HR := Lib.hid (HB5.out.trans (hbr.mono HB5.out.size))
        clear hbr hc1
        generalize hm : cnt false key D j = m at *
        clear hm
        rcases hend with ⟨rfl, rfl⟩ | ⟨rfl, rfl⟩
        · go_wp2_with fail
          go_ret
          exact ⟨rfl, HR.out⟩
        · go_wp2_with fail
          go_ret
          exact ⟨rfl, HR.out⟩

theorem value_walk (v : Value) (xs : List ByteArray) (key : ByteArray) (fold : Bool) (w : World) (hn : xs.length ≤ 9223372036854775807) (hkey : key.size ≤ 140737488355328) (hv : Strs w v xs) :
    Calls Go.Proofs.Tryd.prog 3 #[.bool fold, v, .string key] w fun e w' => e = .returned (.bool true) ∧ Below w.heap.size w w' := by
  cases fold with
  | true => exact value_early_true v xs key w hn hkey hv fun hf hk hw hK => value_main_true v xs key w hn hv hf hk hw hK
  | false => exact value_early_false v xs key w hn hkey hv fun hf hk hw hK => value_main_false v xs key w hn hv hf hk hw hK
end Go.Proofs.YtooajjeikfmieaaDoor
