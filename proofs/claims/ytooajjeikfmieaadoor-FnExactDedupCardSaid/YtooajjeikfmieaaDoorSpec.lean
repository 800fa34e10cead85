/-
  What is proved here: the contract of spec.Dedup: it returns the environment without duplicates in memory of its own; below the heap's end the world is as it was. Conditions: the list has at most 2^31 - 1 items, each item takes at most 2^31 - 1 bytes.
-/
import Derived.Test.YtooajjeikfmieaaDoorOwn
namespace Go.Proofs.YtooajjeikfmieaaDoor
open Go.RowKit

/-- the outer loop's relation: k items have been looked at -/
def SpecAt (W : World) (fold nul : Bool) (xs : List ByteArray) (k : Nat) (v : Value) (wr : World) : Prop :=
  ∃ D : List ByteArray, Own W.heap.size wr v D ∧ D.length ≤ k ∧ D ++ dedS fold nul (xs.drop k) = dedS fold nul xs ∧ Below W.heap.size W wr

theorem SpecAt.kept {W wr w1 : World} {fold nul : Bool} {xs : List ByteArray} {k : Nat} {v : Value} (h : SpecAt W fold nul xs k v wr) (hb : Below wr.heap.size wr w1) : SpecAt W fold nul xs k v w1 := by
  obtain ⟨D, h1, h2, h3, h4⟩ := h
  exact ⟨D, h1.below hb, h2, h3, h4.trans (hb.mono h4.size)⟩

theorem SpecAt.skip {W wr w1 : World} {fold nul : Bool} {xs : List ByteArray} {k : Nat} {v : Value} (h : SpecAt W fold nul xs k v wr) (hb : Below wr.heap.size wr w1) (hd : dedS fold nul (xs.drop k) = dedS fold nul (xs.drop (k + 1))) : SpecAt W fold nul xs (k + 1) v w1 := by
  obtain ⟨D, h1, h2, h3, h4⟩ := h
  exact ⟨D, h1.below hb, by omega, by rw [← hd]; exact h3, h4.trans (hb.mono h4.size)⟩

theorem SpecAt.below {W wr : World} {fold nul : Bool} {xs : List ByteArray} {k : Nat} {v : Value} (h : SpecAt W fold nul xs k v wr) : Below W.heap.size W wr := by
  obtain ⟨_, _, _, _, h4⟩ := h
  exact h4

/-- behind an append of one string -/
theorem own_push {B : Nat} {W w1 w2 : World} {v v' : Value} {D : List ByteArray} {x : ByteArray} {ob : Obj} (hown : Own B w1 v D) (hbel : Below B W w1) (hB : B ≤ w1.heap.size)
    (h' : w2.ownsRow B 9 1 v' (D.length + 1) (D.map Value.string ++ [Value.string x])) (hg : (w1.alloc ob).grownBy w2 v.ownBlock) : Own B w2 v' (D ++ [x]) ∧ Below B W w2 := by
  refine ⟨by simpa [Own] using h', (hbel.alloc hB ob).grown hg (by simp; omega) fun k hk => ?_⟩
  exact (World.ownsRow.lt hown k hk).1

theorem SpecAt.push {W w1 w2 : World} {fold nul : Bool} {xs : List ByteArray} {k : Nat} {v v' : Value} {x : ByteArray} {ob : Obj} {D : List ByteArray} (hown : Own W.heap.size w1 v D) (hDk : D.length ≤ k) (hD : D ++ dedS fold nul (xs.drop k) = dedS fold nul xs) (hbel : Below W.heap.size W w1)
    (hd : dedS fold nul (xs.drop k) = x :: dedS fold nul (xs.drop (k + 1)))
    (h' : w2.ownsRow W.heap.size 9 1 v' (D.length + 1) (D.map Value.string ++ [Value.string x])) (hg : (w1.alloc ob).grownBy w2 v.ownBlock) : SpecAt W fold nul xs (k + 1) v' w2 := by
  obtain ⟨h1, h2⟩ := own_push hown hbel hbel.size h' hg
  exact ⟨D ++ [x], h1, by simp; omega, by rw [← hD, hd, List.append_assoc]; rfl, h2⟩

theorem any_next {p : ByteArray → Bool} {xs : List ByteArray} {m j : Nat} {y : ByteArray} (hy : xs[m + j]? = some y) : ((xs.drop m).take (j + 1)).any p = (((xs.drop m).take j).any p || p y) := by
  have : (xs.drop m)[j]? = some y := by rw [List.getElem?_drop]; exact hy
  rw [take_next this, List.any_append]
  simp
theorem any_all {p : ByteArray → Bool} {xs : List ByteArray} {m j : Nat} (h : xs.length ≤ m + j) : ((xs.drop m).take j).any p = (xs.drop m).any p := by
  rw [List.take_of_length_le (by simp; omega)]
theorem later_no {p : ByteArray → Bool} {xs : List ByteArray} {m j : Nat} {y : ByteArray} {L : Bool} (hL : ((xs.drop m).take j).any p = L) (hn : ((xs.drop m).take (j + 1)).any p = (((xs.drop m).take j).any p || p y)) (hp : p y = false) : Value.bool L = Value.bool (((xs.drop m).take (j + 1)).any p) := by
  rw [hn, hL, hp, Bool.or_false]
theorem later_yes {p : ByteArray → Bool} {xs : List ByteArray} {m j : Nat} {y : ByteArray} (hn : ((xs.drop m).take (j + 1)).any p = (((xs.drop m).take j).any p || p y)) (hp : p y = true) : Value.bool true = Value.bool (((xs.drop m).take (j + 1)).any p) := by
  rw [hn, hp, Bool.or_true]
theorem clash_is (fold nul : Bool) (x y : ByteArray) : clash fold nul x y = (hasK x && hasK y && ((keyS fold y).toList == (keyS fold x).toList) && (nul || !nulS y)) := rfl

set_option maxHeartbeats 4000000 in
set_option maxRecDepth 100000 in
theorem spec_true (b o cap : Nat) (xs : List ByteArray) (fold : Bool) (w : World) (hl : xs.length ≤ cap) (hm : cap ≤ 9223372036854775807) (hn : xs.length ≤ 2147483647) (hz : ∀ x ∈ xs, x.size ≤ 2147483647) (hb : b < w.heap.size) (hc : StrsAt w b o xs) :
    Calls Tryd.prog 18 #[.slice (some ⟨b, o, none⟩) xs.length cap, .bool fold, .bool true] w fun e w' => ∃ v', e = .returned v' ∧ Strs w' v' (dedS fold true xs) ∧ Below w.heap.size w w' := by
  have HZ := Lib.hid hz
  have HC := Lib.hid hc
  clear hz hc
  obtain ⟨i0, hi, hz0, hz1, hz2⟩ := info_parts info9
  go_enter Tryd.func18, Tryd.ntmps18
  go_wp2
  go_loopw [7, 19] (fun v i wr => ∃ k : Nat, k ≤ xs.length ∧ i = .int .i64 k ∧ SpecAt w fold true xs k v wr) (fun _ i _ => xs.length - (intOf i).toNat)
  case atStart => exact ⟨0, Nat.zero_le _, rfl, [], Own.nil _ _, Nat.le_refl _, rfl, Below.refl _ _⟩
  case round =>
    obtain ⟨k, hk, rfl, hsp⟩ := hrel
    by_cases hlt : k < xs.length
    · obtain ⟨x, hx⟩ := getElem?_of_lt hlt
      have hsz := HZ.out x (List.mem_of_getElem? hx)
      have HS := Lib.hid hsp
      have hcell : wr.cell? ⟨b, o + k, none⟩ = some (.string x) := (HC.out.below hsp.below hb) k x hx
      have HX := Lib.hid hx
      clear hx hsp
      cases hbad : badB true x with
      | true =>
        simp [badB] at hbad
      | false =>
        have c := key_any x fold wr (by omega)
        by_cases hcap : cap ≤ k + 1
        · have hkc : k + 1 ≤ cap := by omega
          have HM := Lib.hid (dedS_keep (fold := fold) HX.out hbad (by rw [List.drop_eq_nil_of_le (by omega)]; rfl))
          generalize keyS fold x = kk at c
          generalize hasK x = hh at c
          clear hbad
          go_wp2_with fail
          refine c.mono ?_
          rintro e w1 ⟨rfl, hb1⟩
          have HB1 := Lib.hid hb1
          clear hb1
          go_wp2_with fail
          refine wp_loop_rounds 1 ?_
          rw [rounds_succ]
          obtain ⟨D, h1, h2, h3, h4⟩ := HS.out.kept HB1.out
          have HD := Lib.hid h3
          have HO := Lib.hid h1
          have HL := Lib.hid h4
          clear h1 h3 h4
          go_wp2_with (at_builtin; refine wpList_append_own _ rfl _ _ 22 rfl w.heap.size 9 i0 (.string ⟨#[]⟩) 1 16 Tryd.underlying22 hi hz0 hz1 hz2 rfl (by decide) _ _ _ rfl (World.ownsRow.alloc HO.out _) ⟨w1.heap.size, 0, none⟩ 1 1 [.string x] rfl rfl (cell_one_new _ _ _) (oneString x) (by unfold maxLen; omega) (by omega) (by have := HL.out.size; simp; omega) ?_; intro v' w2 hown' hgrow _)
          go_roundw
          case rel => exact ⟨k + 1, by omega, by go_num, SpecAt.push HO.out h2 HD.out HL.out HM.out hown' hgrow⟩
          case measure => simp [intOf]; omega
        · have HLat := Lib.hid (fun (h : (xs.drop (k + 1)).any (clash fold true x) = true) => dedS_later (fold := fold) HX.out hbad h)
          have HKeep := Lib.hid (fun (h : (xs.drop (k + 1)).any (clash fold true x) = false) => dedS_keep (fold := fold) HX.out hbad h)
          have HCl := Lib.hid (clash_is fold true x)
          generalize keyS fold x = kk at c HCl
          generalize hasK x = hh at c HCl
          clear hbad
          go_wp2_with fail
          refine c.mono ?_
          rintro e w1 ⟨rfl, hb1⟩
          have HS1 := Lib.hid (HS.out.kept hb1)
          clear hb1 c
          have hb1lt : b < w1.heap.size := Nat.lt_of_lt_of_le hb HS1.out.below.size
          have HK1 := Lib.hid (HC.out.below HS1.out.below hb)
          go_wp2_with fail
          go_loopw [12, 41] (fun l i wi => ∃ j : Nat, j ≤ xs.length - (k + 1) ∧ i = .int .i64 j ∧ l = .bool (((xs.drop (k + 1)).take j).any (clash fold true x)) ∧ Below w1.heap.size w1 wi) (fun _ i _ => (xs.length - (k + 1)) - (intOf i).toNat)
          case atStart => exact ⟨0, Nat.zero_le _, rfl, rfl, Below.refl _ _⟩
          case round =>
            obtain ⟨j, hj, rfl, rfl, hbi⟩ := hrel
            generalize hL : ((xs.drop (k + 1)).take j).any (clash fold true x) = L
            have HA := Lib.hid hL
            have HI := Lib.hid hbi
            clear hL
            by_cases hjl : j < xs.length - (k + 1)
            · obtain ⟨y, hy⟩ := getElem?_of_lt (xs := xs) (k := k + 1 + j) (by omega)
              have hysz := HZ.out y (List.mem_of_getElem? hy)
              have hycell : wr.cell? ⟨b, o + (k + 1) + j, none⟩ = some (.string y) := by
                have := (HK1.out.below hbi hb1lt) (k + 1 + j) y hy
                rwa [← Nat.add_assoc] at this
              have HN := Lib.hid (any_next (p := clash fold true x) hy)
              have HCy := Lib.hid (HCl.out y)
              have cy := key_any y fold wr (by omega)
              generalize hasK y = ty at cy HCy
              generalize keyS fold y = ky at cy HCy
              clear hy hbi
              cases hh with
              | false =>
                have HF := Lib.hid (show clash fold true x y = false from by rw [HCy.out]; rfl)
                go_wp2_with fail
                refine cy.mono ?_
                rintro e w3 ⟨rfl, hb3⟩
                have HB3 := Lib.hid hb3
                clear hb3
                go_wp2_with fail
                go_roundw
                case rel => exact ⟨j + 1, by omega, by go_num, later_no HA.out HN.out HF.out, HI.out.trans (HB3.out.mono HI.out.size)⟩
                case measure => simp [intOf]; omega
              | true =>
                cases ty with
                | false =>
                  have HF := Lib.hid (show clash fold true x y = false from by rw [HCy.out]; rfl)
                  go_wp2_with fail
                  refine cy.mono ?_
                  rintro e w3 ⟨rfl, hb3⟩
                  have HB3 := Lib.hid hb3
                  clear hb3
                  go_wp2_with fail
                  go_roundw
                  case rel => exact ⟨j + 1, by omega, by go_num, later_no HA.out HN.out HF.out, HI.out.trans (HB3.out.mono HI.out.size)⟩
                  case measure => simp [intOf]; omega
                | true =>
                  cases he : (ky.toList == kk.toList) with
                  | false =>
                    have HF := Lib.hid (show clash fold true x y = false from by rw [HCy.out, he]; rfl)
                    go_wp2_with fail
                    refine cy.mono ?_
                    rintro e w3 ⟨rfl, hb3⟩
                    have HB3 := Lib.hid hb3
                    clear hb3
                    go_wp2_with fail
                    go_roundw
                    case rel => exact ⟨j + 1, by omega, by go_num, later_no HA.out HN.out HF.out, HI.out.trans (HB3.out.mono HI.out.size)⟩
                    case measure => simp [intOf]; omega
                  | true =>
                    have HF := Lib.hid (show clash fold true x y = true from by rw [HCy.out, he]; rfl)
                    go_wp2_with fail
                    refine cy.mono ?_
                    rintro e w3 ⟨rfl, hb3⟩
                    have HB3 := Lib.hid hb3
                    clear hb3
                    go_wp2_with fail
                    go_roundw
                    case rel => exact ⟨j + 1, by omega, by go_num, later_yes HN.out HF.out, HI.out.trans (HB3.out.mono HI.out.size)⟩
                    case measure => simp [intOf]; omega
            · have HAll := Lib.hid (show (xs.drop (k + 1)).any (clash fold true x) = L from by rw [← HA.out, any_all (by omega)])
              cases L with
              | true =>
                have HSk := Lib.hid (HS1.out.skip hbi (HLat.out HAll.out))
                clear hbi
                go_wp2_with fail
                go_roundw
                case rel => exact ⟨k + 1, by omega, by go_num, HSk.out⟩
                case measure => simp [intOf]; omega
              | false =>
                have HM := Lib.hid (HKeep.out HAll.out)
                obtain ⟨D, h1, h2, h3, h4⟩ := HS1.out.kept hbi
                have HD := Lib.hid h3
                have HO := Lib.hid h1
                have HL := Lib.hid h4
                clear h1 h3 h4 hbi
                go_wp2_with (at_builtin; refine wpList_append_own _ rfl _ _ 22 rfl w.heap.size 9 i0 (.string ⟨#[]⟩) 1 16 Tryd.underlying22 hi hz0 hz1 hz2 rfl (by decide) _ _ _ rfl (World.ownsRow.alloc HO.out _) ⟨wr.heap.size, 0, none⟩ 1 1 [.string x] rfl rfl (cell_one_new _ _ _) (oneString x) (by unfold maxLen; omega) (by omega) (by have := HL.out.size; simp; omega) ?_; intro v' w2 hown' hgrow _)
                go_roundw
                case rel => exact ⟨k + 1, by omega, by go_num, SpecAt.push HO.out h2 HD.out HL.out HM.out hown' hgrow⟩
                case measure => simp [intOf]; omega
    · have HS := Lib.hid hsp
      have HE := Lib.hid (dedS_end (fold := fold) (nul := true) (show xs.length ≤ k by omega))
      clear hsp
      go_wp2_with fail
      go_ret
      obtain ⟨D, h1, h2, h3, h4⟩ := HS.out
      rw [HE.out, List.append_nil] at h3
      exact ⟨_, rfl, by rw [← h3]; exact h1.strs, h4⟩

set_option maxHeartbeats 4000000 in
set_option maxRecDepth 100000 in
theorem spec_false (b o cap : Nat) (xs : List ByteArray) (fold : Bool) (w : World) (hl : xs.length ≤ cap) (hm : cap ≤ 9223372036854775807) (hn : xs.length ≤ 2147483647) (hz : ∀ x ∈ xs, x.size ≤ 2147483647) (hb : b < w.heap.size) (hc : StrsAt w b o xs) :
    Calls Tryd.prog 18 #[.slice (some ⟨b, o, none⟩) xs.length cap, .bool fold, .bool false] w fun e w' => ∃ v', e = .returned v' ∧ Strs w' v' (dedS fold false xs) ∧ Below w.heap.size w w' := by
  have HZ := Lib.hid hz
  have HC := Lib.hid hc
  clear hz hc
  obtain ⟨i0, hi, hz0, hz1, hz2⟩ := info_parts info9
  go_enter Tryd.func18, Tryd.ntmps18
  go_wp2
  go_loopw [7, 19] (fun v i wr => ∃ k : Nat, k ≤ xs.length ∧ i = .int .i64 k ∧ SpecAt w fold false xs k v wr) (fun _ i _ => xs.length - (intOf i).toNat)
  case atStart => exact ⟨0, Nat.zero_le _, rfl, [], Own.nil _ _, Nat.le_refl _, rfl, Below.refl _ _⟩
  case round =>
    obtain ⟨k, hk, rfl, hsp⟩ := hrel
    by_cases hlt : k < xs.length
    · obtain ⟨x, hx⟩ := getElem?_of_lt hlt
      have hsz := HZ.out x (List.mem_of_getElem? hx)
      have HS := Lib.hid hsp
      have hcell : wr.cell? ⟨b, o + k, none⟩ = some (.string x) := (HC.out.below hsp.below hb) k x hx
      have HX := Lib.hid hx
      clear hx hsp
      cases hbad : badB false x with
      | true =>
        have HM := Lib.hid (dedS_bad (fold := fold) HX.out hbad)
        have h2 : nulS x = true := by simpa [badB] using hbad
        have d := nul_is x wr true (by omega) h2
        clear hbad h2
        go_wp2_with fail
        refine d.mono ?_
        rintro e w1 ⟨rfl, rfl⟩
        go_wp2_with fail
        go_roundw
        case rel => exact ⟨k + 1, by omega, by go_num, HS.out.skip (Below.refl _ _) HM.out⟩
        case measure => simp [intOf]; omega
      | false =>
        have c := key_any x fold wr (by omega)
        have d := nul_is x wr false (by omega) (by simpa [badB] using hbad)
        by_cases hcap : cap ≤ k + 1
        · have hkc : k + 1 ≤ cap := by omega
          have HM := Lib.hid (dedS_keep (fold := fold) HX.out hbad (by rw [List.drop_eq_nil_of_le (by omega)]; rfl))
          generalize keyS fold x = kk at c
          generalize hasK x = hh at c
          clear hbad
          go_wp2_with fail
          refine d.mono ?_
          rintro e w1 ⟨rfl, rfl⟩
          go_wp2_with fail
          refine c.mono ?_
          rintro e w1 ⟨rfl, hb1⟩
          have HB1 := Lib.hid hb1
          clear hb1
          go_wp2_with fail
          refine wp_loop_rounds 1 ?_
          rw [rounds_succ]
          obtain ⟨D, h1, h2, h3, h4⟩ := HS.out.kept HB1.out
          have HD := Lib.hid h3
          have HO := Lib.hid h1
          have HL := Lib.hid h4
          clear h1 h3 h4
          go_wp2_with (at_builtin; refine wpList_append_own _ rfl _ _ 22 rfl w.heap.size 9 i0 (.string ⟨#[]⟩) 1 16 Tryd.underlying22 hi hz0 hz1 hz2 rfl (by decide) _ _ _ rfl (World.ownsRow.alloc HO.out _) ⟨w1.heap.size, 0, none⟩ 1 1 [.string x] rfl rfl (cell_one_new _ _ _) (oneString x) (by unfold maxLen; omega) (by omega) (by have := HL.out.size; simp; omega) ?_; intro v' w2 hown' hgrow _)
          go_roundw
          case rel => exact ⟨k + 1, by omega, by go_num, SpecAt.push HO.out h2 HD.out HL.out HM.out hown' hgrow⟩
          case measure => simp [intOf]; omega
        · have HLat := Lib.hid (fun (h : (xs.drop (k + 1)).any (clash fold false x) = true) => dedS_later (fold := fold) HX.out hbad h)
          have HKeep := Lib.hid (fun (h : (xs.drop (k + 1)).any (clash fold false x) = false) => dedS_keep (fold := fold) HX.out hbad h)
          have HCl := Lib.hid (clash_is fold false x)
          generalize keyS fold x = kk at c HCl
          generalize hasK x = hh at c HCl
          clear hbad
          go_wp2_with fail
          refine d.mono ?_
          rintro e w1 ⟨rfl, rfl⟩
          go_wp2_with fail
          refine c.mono ?_
          rintro e w1 ⟨rfl, hb1⟩
          have HS1 := Lib.hid (HS.out.kept hb1)
          clear hb1 c
          have hb1lt : b < w1.heap.size := Nat.lt_of_lt_of_le hb HS1.out.below.size
          have HK1 := Lib.hid (HC.out.below HS1.out.below hb)
          go_wp2_with fail
          go_loopw [12, 41] (fun l i wi => ∃ j : Nat, j ≤ xs.length - (k + 1) ∧ i = .int .i64 j ∧ l = .bool (((xs.drop (k + 1)).take j).any (clash fold false x)) ∧ Below w1.heap.size w1 wi) (fun _ i _ => (xs.length - (k + 1)) - (intOf i).toNat)
          case atStart => exact ⟨0, Nat.zero_le _, rfl, rfl, Below.refl _ _⟩
          case round =>
            obtain ⟨j, hj, rfl, rfl, hbi⟩ := hrel
            generalize hL : ((xs.drop (k + 1)).take j).any (clash fold false x) = L
            have HA := Lib.hid hL
            have HI := Lib.hid hbi
            clear hL
            by_cases hjl : j < xs.length - (k + 1)
            · obtain ⟨y, hy⟩ := getElem?_of_lt (xs := xs) (k := k + 1 + j) (by omega)
              have hysz := HZ.out y (List.mem_of_getElem? hy)
              have hycell : wr.cell? ⟨b, o + (k + 1) + j, none⟩ = some (.string y) := by
                have := (HK1.out.below hbi hb1lt) (k + 1 + j) y hy
                rwa [← Nat.add_assoc] at this
              have HN := Lib.hid (any_next (p := clash fold false x) hy)
              have HCy := Lib.hid (HCl.out y)
              have cy := key_any y fold wr (by omega)
              have dy := fun (w' : World) => nul_is y w' (nulS y) (by omega) rfl
              generalize hasK y = ty at cy HCy
              generalize keyS fold y = ky at cy HCy
              generalize nulS y = q at dy HCy
              clear hy hbi
              cases hh with
              | false =>
                have HF := Lib.hid (show clash fold false x y = false from by rw [HCy.out]; rfl)
                clear dy
                go_wp2_with fail
                refine cy.mono ?_
                rintro e w3 ⟨rfl, hb3⟩
                have HB3 := Lib.hid hb3
                clear hb3
                go_wp2_with fail
                go_roundw
                case rel => exact ⟨j + 1, by omega, by go_num, later_no HA.out HN.out HF.out, HI.out.trans (HB3.out.mono HI.out.size)⟩
                case measure => simp [intOf]; omega
              | true =>
                cases ty with
                | false =>
                  have HF := Lib.hid (show clash fold false x y = false from by rw [HCy.out]; rfl)
                  clear dy
                  go_wp2_with fail
                  refine cy.mono ?_
                  rintro e w3 ⟨rfl, hb3⟩
                  have HB3 := Lib.hid hb3
                  clear hb3
                  go_wp2_with fail
                  go_roundw
                  case rel => exact ⟨j + 1, by omega, by go_num, later_no HA.out HN.out HF.out, HI.out.trans (HB3.out.mono HI.out.size)⟩
                  case measure => simp [intOf]; omega
                | true =>
                  cases he : (ky.toList == kk.toList) with
                  | false =>
                    have HF := Lib.hid (show clash fold false x y = false from by rw [HCy.out, he]; rfl)
                    clear dy
                    go_wp2_with fail
                    refine cy.mono ?_
                    rintro e w3 ⟨rfl, hb3⟩
                    have HB3 := Lib.hid hb3
                    clear hb3
                    go_wp2_with fail
                    go_roundw
                    case rel => exact ⟨j + 1, by omega, by go_num, later_no HA.out HN.out HF.out, HI.out.trans (HB3.out.mono HI.out.size)⟩
                    case measure => simp [intOf]; omega
                  | true =>
                    cases q with
                    | true =>
                      have HF := Lib.hid (show clash fold false x y = false from by rw [HCy.out, he]; rfl)
                      go_wp2_with fail
                      refine cy.mono ?_
                      rintro e w3 ⟨rfl, hb3⟩
                      have HB3 := Lib.hid hb3
                      clear hb3
                      go_wp2_with fail
                      refine (dy _).mono ?_
                      rintro e w4 ⟨rfl, rfl⟩
                      go_wp2_with fail
                      go_roundw
                      case rel => exact ⟨j + 1, by omega, by go_num, later_no HA.out HN.out HF.out, HI.out.trans (HB3.out.mono HI.out.size)⟩
                      case measure => simp [intOf]; omega
                    | false =>
                      have HF := Lib.hid (show clash fold false x y = true from by rw [HCy.out, he]; rfl)
                      go_wp2_with fail
                      refine cy.mono ?_
                      rintro e w3 ⟨rfl, hb3⟩
                      have HB3 := Lib.hid hb3
                      clear hb3
                      go_wp2_with fail
                      refine (dy _).mono ?_
                      rintro e w4 ⟨rfl, rfl⟩
                      go_wp2_with fail
                      go_roundw
                      case rel => exact ⟨j + 1, by omega, by go_num, later_yes HN.out HF.out, HI.out.trans (HB3.out.mono HI.out.size)⟩
                      case measure => simp [intOf]; omega
            · have HAll := Lib.hid (show (xs.drop (k + 1)).any (clash fold false x) = L from by rw [← HA.out, any_all (by omega)])
              cases L with
              | true =>
                have HSk := Lib.hid (HS1.out.skip hbi (HLat.out HAll.out))
                clear hbi
                go_wp2_with fail
                go_roundw
                case rel => exact ⟨k + 1, by omega, by go_num, HSk.out⟩
                case measure => simp [intOf]; omega
              | false =>
                have HM := Lib.hid (HKeep.out HAll.out)
                obtain ⟨D, h1, h2, h3, h4⟩ := HS1.out.kept hbi
                have HD := Lib.hid h3
                have HO := Lib.hid h1
                have HL := Lib.hid h4
                clear h1 h3 h4 hbi
                go_wp2_with (at_builtin; refine wpList_append_own _ rfl _ _ 22 rfl w.heap.size 9 i0 (.string ⟨#[]⟩) 1 16 Tryd.underlying22 hi hz0 hz1 hz2 rfl (by decide) _ _ _ rfl (World.ownsRow.alloc HO.out _) ⟨wr.heap.size, 0, none⟩ 1 1 [.string x] rfl rfl (cell_one_new _ _ _) (oneString x) (by unfold maxLen; omega) (by omega) (by have := HL.out.size; simp; omega) ?_; intro v' w2 hown' hgrow _)
                go_roundw
                case rel => exact ⟨k + 1, by omega, by go_num, SpecAt.push HO.out h2 HD.out HL.out HM.out hown' hgrow⟩
                case measure => simp [intOf]; omega
    · have HS := Lib.hid hsp
      have HE := Lib.hid (dedS_end (fold := fold) (nul := false) (show xs.length ≤ k by omega))
      clear hsp
      go_wp2_with fail
      go_ret
      obtain ⟨D, h1, h2, h3, h4⟩ := HS.out
      rw [HE.out, List.append_nil] at h3
      exact ⟨_, rfl, by rw [← h3]; exact h1.strs, h4⟩

set_option maxHeartbeats 400000 in
theorem spec_empty (a : Option Addr) (cap : Nat) (fold nul : Bool) (w : World) :
    Calls Tryd.prog 18 #[.slice a 0 cap, .bool fold, .bool nul] w fun e w' => e = .returned (.slice none 0 0) ∧ w = w' := by
  go_enter Tryd.func18, Tryd.ntmps18
  go_wp2
  refine wp_loop_rounds 1 ?_
  rw [rounds_succ]
  go_wp2
  go_ret
  exact ⟨rfl, rfl⟩

theorem spec_any (v : Value) (xs : List ByteArray) (fold nul : Bool) (w : World) (hn : xs.length ≤ 2147483647) (hz : ∀ x ∈ xs, x.size ≤ 2147483647) (hv : Strs w v xs) :
    Calls Tryd.prog 18 #[v, .bool fold, .bool nul] w fun e w' => ∃ v', e = .returned v' ∧ Strs w' v' (dedS fold nul xs) ∧ Below w.heap.size w w' := by
  rcases hv with ⟨rfl, a, cap, _, rfl⟩ | ⟨_, b, o, cap, rfl, hl, hm, hb, hc⟩
  · refine (spec_empty a cap fold nul w).mono ?_
    rintro e w' ⟨he, rfl⟩
    exact ⟨_, he, .inl ⟨rfl, none, 0, fun _ => rfl, rfl⟩, Below.refl _ _⟩
  · cases nul with
    | true => exact spec_true b o cap xs fold w hl hm hn hz hb hc
    | false => exact spec_false b o cap xs fold w hl hm hn hz hb hc

end Go.Proofs.YtooajjeikfmieaaDoor
