/-
  What is proved here: the contract of spec.Value: it returns the last value of a key and whether there is one; below the heap's end the world is as it was. Conditions: lengths are ints, items take at most 2^47 bytes.
-/
import Derived.Test.YtooajjeikfmieaaDoorFits
namespace Go.Proofs.YtooajjeikfmieaaDoor
open Go.RowKit

/-- has the item this key? -/
def hitB (fold : Bool) (key x : ByteArray) : Bool := hasK x && ((keyS fold x).toList == key.toList)
/-- what stands behind the first equals sign -/
def valOf (x : ByteArray) : ByteArray := x.extract (sg x.data.toList + 1) x.size
/-- the last item with this key -/
def lastM (fold : Bool) (key : ByteArray) (xs : List ByteArray) : Option ByteArray := (xs.filter (hitB fold key)).getLast?
/-- its value, or the empty text -/
def valS : Option ByteArray → ByteArray
  | some x => valOf x
  | none => ⟨#[]⟩

theorem lastM_hit {fold : Bool} {key : ByteArray} {xs : List ByteArray} {k : Nat} {x : ByteArray} (hx : xs[k]? = some x) (h : hitB fold key x = true) : lastM fold key (xs.take (k + 1)) = some x := by
  rw [lastM, take_next hx, List.filter_append]
  simp [h]
theorem lastM_miss {fold : Bool} {key : ByteArray} {xs : List ByteArray} {k : Nat} {x : ByteArray} (hx : xs[k]? = some x) (h : hitB fold key x = false) : lastM fold key (xs.take (k + 1)) = lastM fold key (xs.take k) := by
  rw [lastM, take_next hx, List.filter_append]
  simp [h, lastM]
theorem lastM_end {fold : Bool} {key : ByteArray} {xs : List ByteArray} {k : Nat} (hk : xs.length ≤ k) : lastM fold key (xs.take k) = lastM fold key xs := by
  rw [List.take_of_length_le hk]

/-- the two variables after k rounds -/
def ValAt (fold : Bool) (key : ByteArray) (xs : List ByteArray) (k : Nat) (v ok : Value) : Prop := v = .string (valS (lastM fold key (xs.take k))) ∧ ok = .bool (lastM fold key (xs.take k)).isSome

set_option maxHeartbeats 400000 in
theorem value_empty (a : Option Addr) (cap : Nat) (key : ByteArray) (fold : Bool) (w : World) :
    Calls Tryd.prog 13 #[.slice a 0 cap, .string key, .bool fold] w fun e w' => e = .returned (.tuple #[.string ⟨#[]⟩, .bool false]) ∧ w = w' := by
  go_enter Tryd.func13, Tryd.ntmps13
  go_wp2
  refine wp_loop_rounds 1 ?_
  rw [rounds_succ]
  go_wp2
  go_ret2
  exact ⟨rfl, rfl⟩

set_option maxHeartbeats 1000000 in
set_option maxRecDepth 100000 in
theorem value_at (b o cap : Nat) (xs : List ByteArray) (key : ByteArray) (fold : Bool) (w : World) (hn : xs.length ≤ 9223372036854775807) (hz : ∀ x ∈ xs, x.size ≤ 140737488355328) (hb : b < w.heap.size) (hc : StrsAt w b o xs) :
    Calls Tryd.prog 13 #[.slice (some ⟨b, o, none⟩) xs.length cap, .string key, .bool fold] w fun e w' => e = .returned (.tuple #[.string (valS (lastM fold key xs)), .bool (lastM fold key xs).isSome]) ∧ Below w.heap.size w w' := by
  have HZ := Lib.hid hz
  have HC := Lib.hid hc
  clear hz hc
  go_enter Tryd.func13, Tryd.ntmps13
  go_wp2
  go_loopw [8, 9, 11, 12, 13, 16] (fun v ok _ _ _ i wr => ∃ k : Nat, k ≤ xs.length ∧ i = .int .i64 k ∧ ValAt fold key xs k v ok ∧ Below w.heap.size w wr) (fun _ _ _ _ _ i _ => xs.length - (intOf i).toNat)
  case atStart => exact ⟨0, Nat.zero_le _, rfl, ⟨rfl, rfl⟩, Below.refl _ _⟩
  case round =>
    obtain ⟨k, hk, rfl, ⟨rfl, rfl⟩, hbel⟩ := hrel
    by_cases hlt : k < xs.length
    · obtain ⟨x, hx⟩ := getElem?_of_lt hlt
      have hcell := (HC.out.below hbel hb) k x hx
      have hsz := HZ.out x (List.mem_of_getElem? hx)
      have HX := Lib.hid hx
      have HB := Lib.hid hbel
      clear hx hbel
      generalize hV : valS (lastM fold key (xs.take k)) = V
      generalize hO : (lastM fold key (xs.take k)).isSome = O
      have HV := Lib.hid hV
      have HO := Lib.hid hO
      clear hV hO
      have c := key_any x fold wr hsz
      cases hh : hasK x with
      | false =>
        have HM := Lib.hid (lastM_miss (fold := fold) (key := key) HX.out (by simp [hitB, hh]))
        rw [hh] at c
        clear hh
        go_wp2_with fail
        refine c.mono ?_
        rintro e w1 ⟨rfl, hb1⟩
        have HB1 := Lib.hid hb1
        clear hb1
        go_wp2_with fail
        go_roundw
        case rel => exact ⟨k + 1, by omega, by go_num, ⟨by rw [HM.out, HV.out], by rw [HM.out, HO.out]⟩, HB.out.trans (HB1.out.mono HB.out.size)⟩
        case measure => simp [intOf]; omega
      | true =>
        have hlt2 : sg x.data.toList < x.size := by simpa [hasK] using hh
        have d := fun w' => sign_yes x w' (by omega) hh
        cases he : ((keyS fold x).toList == key.toList) with
        | false =>
          have HM := Lib.hid (lastM_miss (fold := fold) (key := key) HX.out (by simp [hitB, hh, he]))
          rw [hh] at c
          generalize keyS fold x = kk at c he
          clear hh d
          go_wp2_with fail
          refine c.mono ?_
          rintro e w1 ⟨rfl, hb1⟩
          have HB1 := Lib.hid hb1
          clear hb1
          go_wp2_with fail
          go_roundw
          case rel => exact ⟨k + 1, by omega, by go_num, ⟨by rw [HM.out, HV.out], by rw [HM.out, HO.out]⟩, HB.out.trans (HB1.out.mono HB.out.size)⟩
          case measure => simp [intOf]; omega
        | true =>
          have HM := Lib.hid (lastM_hit (fold := fold) (key := key) HX.out (by simp [hitB, hh, he]))
          have HE := Lib.hid (show x.extract (sg x.data.toList + 1) x.size = valOf x from rfl)
          rw [hh] at c
          generalize keyS fold x = kk at c he
          generalize sg x.data.toList = n at d hlt2 HE
          clear hh
          go_wp2_with fail
          refine c.mono ?_
          rintro e w1 ⟨rfl, hb1⟩
          have HB1 := Lib.hid hb1
          clear hb1
          go_wp2_with fail
          refine (d _).mono ?_
          rintro e w2 ⟨rfl, rfl⟩
          go_wp2_with fail
          go_roundw
          case rel => exact ⟨k + 1, by omega, by go_num, ⟨by rw [HM.out, HE.out]; rfl, by rw [HM.out]; rfl⟩, HB.out.trans (HB1.out.mono HB.out.size)⟩
          case measure => simp [intOf]; omega
    · have HE := Lib.hid (lastM_end (fold := fold) (key := key) (show xs.length ≤ k by omega))
      have HB := Lib.hid hbel
      clear hbel
      generalize hV : lastM fold key (xs.take k) = V at HE
      have HV := Lib.hid hV
      clear hV
      go_wp2_with fail
      go_ret2
      exact ⟨by rw [HE.out]; rfl, HB.out⟩

theorem value_any (v : Value) (xs : List ByteArray) (key : ByteArray) (fold : Bool) (w : World) (hn : xs.length ≤ 9223372036854775807) (hz : ∀ x ∈ xs, x.size ≤ 140737488355328) (hv : Strs w v xs) :
    Calls Tryd.prog 13 #[v, .string key, .bool fold] w fun e w' => e = .returned (.tuple #[.string (valS (lastM fold key xs)), .bool (lastM fold key xs).isSome]) ∧ Below w.heap.size w w' := by
  rcases hv with ⟨rfl, a, cap, _, rfl⟩ | ⟨_, b, o, cap, rfl, _, _, hb, hc⟩
  · refine (value_empty a cap key fold w).mono ?_
    rintro e w' ⟨he, rfl⟩
    exact ⟨he, Below.refl _ _⟩
  · exact value_at b o cap xs key fold w hn hz hb hc
end Go.Proofs.YtooajjeikfmieaaDoor
