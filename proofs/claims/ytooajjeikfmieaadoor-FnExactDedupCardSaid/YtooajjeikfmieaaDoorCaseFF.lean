/-
  What is proved here: the contract of dedupEnvCase for a list that is not empty, at nul = false and fold = false: it returns the environment without duplicates in memory of its own, and an error just if an item with a byte of 0 is not allowed; below the heap's end the world is as it was. Conditions: at most 2^31 - 1 items of at most 2^31 - 1 bytes, each of the form that spec.Well asks.
-/
import Derived.Test.YtooajjeikfmieaaDoorCaseAt
import Derived.Test.YtooajjeikfmieaaDoorRev
import Derived.Test.YtooajjeikfmieaaDoorCalls
import Derived.BigRegion
import Derived.RegionTactic
namespace Go.Proofs.YtooajjeikfmieaaDoor
open Go.RowKit

set_option maxHeartbeats 4000000 in
set_option maxRecDepth 100000 in
theorem case_FF (b o cap : Nat) (xs : List ByteArray) (w : World) (hn : xs.length ≤ 2147483647) (hz : ∀ x ∈ xs, x.size ≤ 2147483647) (hok : ∀ x ∈ xs, okI false x = true) (hb : b < w.heap.size) (hc : StrsAt w b o xs) :
    Calls Go.Proofs.Tryd.prog 21 #[.bool false, .bool false, .slice (some ⟨b, o, none⟩) xs.length cap] w fun e w' => ∃ vo ve, e = .returned (.tuple #[vo, ve]) ∧ Strs w' vo (dedS false false xs) ∧ ErrV (xs.any (badB false)) ve ∧ Below w.heap.size w w' := by
  have HZ := Lib.hid hz
  have HOK := Lib.hid hok
  have HC := Lib.hid hc
  clear hz hok hc
  obtain ⟨i0, hi, hz0, hz1, hz2⟩ := info_parts info9
  have hmm := run_makeSaw
  go_enter Tryd.func21, Tryd.ntmps21
  go_wp2_with (at_make; refine wpList_make_own _ rfl _ _ 22 rfl w.heap.size 9 i0 (.string ⟨#[]⟩) 1 Tryd.underlying22 hi hz0 hz1 _ _ _ xs.length rfl rfl rfl (by rw [hz2]; omega) (by unfold maxLen; omega) (Nat.le_refl _) ?_; intro w1 hown hgrow)
  have HS := Lib.hid (CaseAt.start false false xs hown hgrow)
  clear hown hgrow hmm
  go_loopw [8, 9, 11] (fun ve vo i wr => ∃ (k : Nat) (D : List ByteArray) (c : Nat) (ks : List (List UInt8)), k ≤ xs.length ∧ i = .int .i64 k ∧ vo = .slice (some ⟨w.heap.size, 0, none⟩) D.length xs.length ∧ CaseAt w false false xs w1.heap.size k ve D c ks wr) (fun _ _ i _ => (intOf i).toNat)
  case atStart => exact ⟨xs.length, [], 0, [], Nat.le_refl _, rfl, rfl, HS.out⟩
  case round =>
    obtain ⟨k, D, c, ks, hk, rfl, rfl, hat⟩ := hrel
    have HA := Lib.hid hat
    by_cases hk0 : 0 < k
    · obtain ⟨x, hx⟩ := getElem?_of_lt (xs := xs) (k := k - 1) (by omega)
      have hsz := HZ.out x (List.mem_of_getElem? hx)
      have hcell : wr.cell? ⟨b, o + (k - 1), none⟩ = some (.string x) := (HC.out.below hat.bel hb) (k - 1) x hx
      have HX := Lib.hid hx
      have HO := Lib.hid (HOK.out x (List.mem_of_getElem? hx))
      have hpos := okI_size HO.out
      have e0 := toList_cons hpos
      have e1 := isEmpty_no hpos
      clear hx hat
      cases hbad : badB false x with
      | true =>
        have d := index_yes x wr (by simpa [badB] using hbad)
        have HB := Lib.hid hbad
        clear hbad
        go_wp2_with fail
        refine d.mono ?_
        rintro e w2 ⟨⟨p, rfl⟩, rfl⟩
        have hp : ((p : Int) == -1) = false := by simp
        go_wp2_with fail
        refine (error_any _ _).mono ?_
        rintro e w3 ⟨⟨p2, rfl⟩, hb3⟩
        have HB3 := Lib.hid hb3
        clear hb3
        go_wp2_with fail
        go_roundw
        case rel => exact ⟨k - 1, D, c, ks, by omega, by go_num, rfl, (HA.out.kept HB3.out).bad hk0 HX.out HB.out ⟨_, rfl⟩⟩
        case measure => simp [intOf]; omega
      | false =>
        have d := index_no x wr (by simpa [badB] using hbad)
        have HB := Lib.hid hbad
        clear hbad
        by_cases hK : hasK x = true
        · have hlt2 : sg x.data.toList < x.size := by simpa [hasK] using hK
          have hp0 : 0 < sg x.data.toList := okI_sg HO.out hK
          have ix := fun w' => idx_yes x w' (by omega) hK
          have ex := keyS_plain hK
          have hks := keyS_size2 false x
          have HK := Lib.hid hK
          clear hK
          generalize sg x.data.toList = n at hlt2 hp0 ix ex
          cases hm : decide ((keyS false x).data.toList ∈ ks) with
          | true =>
            have HM := Lib.hid hm
            clear hm
            go_wp2_with fail
            refine d.mono ?_
            rintro e w2 ⟨rfl, rfl⟩
            go_wp2_with fail
            refine (ix _).mono ?_
            rintro e w2 ⟨rfl, rfl⟩
            have HA3 := HA
            go_wp2_with (at_lookup; refine wpList_saw rfl _ _ rfl w1.heap.size c ks rfl HA3.out.saw (keyS false x) (by unfold maxLen; omega) rfl true HM.out ?_)
            go_roundw
            case rel => exact ⟨k - 1, D, c, ks, by omega, by go_num, rfl, HA3.out.old hk0 HX.out HB.out HK.out HM.out⟩
            case measure => simp [intOf]; omega
          | false =>
            have HM := Lib.hid hm
            clear hm
            go_wp2_with fail
            refine d.mono ?_
            rintro e w2 ⟨rfl, rfl⟩
            go_wp2_with fail
            refine (ix _).mono ?_
            rintro e w2 ⟨rfl, rfl⟩
            have HA3 := HA
            go_wp2_with (first | (at_lookup; refine wpList_saw rfl _ _ rfl w1.heap.size c ks rfl HA3.out.saw (keyS false x) (by unfold maxLen; omega) rfl false HM.out ?_) | (at_mapUpdate; refine wpList_see rfl _ _ _ rfl w1.heap.size c ks rfl HA3.out.saw (by have := HA3.out.few; unfold maxLen; omega) (keyS false x) (by unfold maxLen; omega) rfl rfl ?_; intro w4 hs4 hg4) | (at_builtin; refine wpList_append_fits _ rfl _ _ 22 rfl w.heap.size 9 i0 1 Tryd.underlying22 hi hz1 w.heap.size D.length xs.length (D.map Value.string) rfl (World.ownsRow.alloc (HA3.out.own.kept hg4 (own_ne HA3.out.mlt)) _) ⟨w4.heap.size, 0, none⟩ 1 1 [.string x] rfl rfl (cell_one_new _ _ _) (oneString x) (by have := HA3.out.length; omega) ?_; intro w5 ho5 hg5))
            go_roundw
            case rel => exact ⟨k - 1, D ++ [x], c + 1, ks ++ [(keyS false x).data.toList], by omega, by go_num, by simp, HA3.out.new hk0 HX.out HB.out HK.out HM.out hs4 hg4 ho5 hg5⟩
            case measure => simp [intOf]; omega
        · have hK' : hasK x = false := by simpa using hK
          have ix := fun w' => idx_no x w' (by omega) hK'
          have HK := Lib.hid hK'
          clear hK hK'
          go_wp2_with fail
          refine d.mono ?_
          rintro e w2 ⟨rfl, rfl⟩
          go_wp2_with fail
          refine (ix _).mono ?_
          rintro e w2 ⟨rfl, rfl⟩
          go_wp2_with (at_builtin; refine wpList_append_fits _ rfl _ _ 22 rfl w.heap.size 9 i0 1 Tryd.underlying22 hi hz1 w.heap.size D.length xs.length (D.map Value.string) rfl (World.ownsRow.alloc HA.out.own _) ⟨wr.heap.size, 0, none⟩ 1 1 [.string x] rfl rfl (cell_one_new _ _ _) (oneString x) (by have := HA.out.length; omega) ?_; intro w5 ho5 hg5)
          go_roundw
          case rel => exact ⟨k - 1, D ++ [x], c, ks, by omega, by go_num, by simp, HA.out.plain hk0 HX.out HB.out HK.out ho5 hg5⟩
          case measure => simp [intOf]; omega
    · obtain rfl : k = 0 := by omega
      have HT := Lib.hid (show TurnAt w D xs.length 0 wr from ⟨D, RevAt.start D, hat.own, hat.bel⟩)
      have hDn := hat.length
      clear hat
      go_wp2_with fail
      go_loopw [15, 16] (fun i _ wq => ∃ t : Nat, t ≤ D.length / 2 ∧ i = .int .i64 t ∧ TurnAt w D xs.length t wq) (fun i _ _ => D.length / 2 - (intOf i).toNat)
      case atStart => exact ⟨0, Nat.zero_le _, rfl, HT.out⟩
      case round =>
        obtain ⟨t, ht, rfl, hturn⟩ := hrel
        by_cases hlt : t < D.length / 2
        · obtain ⟨p, r, ⟨c1, c2⟩, ⟨f1, f2⟩, hnext⟩ := hturn.at hlt
          have HN := Lib.hid hnext
          clear hturn hnext
          go_wp2_with fail
          go_region
          go_wp2
          go_roundw
          case rel => exact ⟨t + 1, by omega, by go_num, HN.out.drew⟩
          case measure => simp [intOf]; omega
        · have hge : D.length / 2 ≤ t := by omega
          have HE := Lib.hid (hturn.done hge)
          have HR := Lib.hid (show D.reverse = dedS false false xs from by rw [HA.out.ded, List.reverse_reverse]; rfl)
          have HV := Lib.hid HA.out.err
          clear hturn
          go_wp2_with fail
          go_ret2
          exact ⟨_, _, rfl, HR.out ▸ HE.out.1, HV.out, HE.out.2⟩
end Go.Proofs.YtooajjeikfmieaaDoor
