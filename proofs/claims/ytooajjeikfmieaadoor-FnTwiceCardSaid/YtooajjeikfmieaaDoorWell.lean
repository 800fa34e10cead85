/-
  What is proved here: the contract of spec.Well: whether each item is not empty, does not begin with an equals sign and, if the case of keys does not count, has a key of ASCII, and there are at most 1000 items; the world stays. Conditions: lengths are ints, items take at most 2^47 bytes.
-/
import Derived.Test.YtooajjeikfmieaaDoorFits
namespace Go.Proofs.YtooajjeikfmieaaDoor
open Go.RowKit

/-- all bytes are of ASCII -/
def asciiL (l : List UInt8) : Bool := l.all fun b => decide (b.toNat < 128)
/-- an item that the statements speak of -/
def okI (fold : Bool) (x : ByteArray) : Bool := decide (x.size ≠ 0) && !(x.data.toList.head? == some 61) && (!fold || asciiL (keyS false x).data.toList)
/-- what spec.Well returns -/
def wellB (fold : Bool) (xs : List ByteArray) : Bool := xs.all (okI fold) && decide (xs.length ≤ 1000)

theorem key_false (s : ByteArray) (w : World) (hs : s.size ≤ 140737488355328) :
    Calls Tryd.prog 14 #[.string s, .bool false] w fun e w' => e = .returned (.tuple #[.string (keyS false s), .bool (hasK s)]) ∧ w = w' := by
  by_cases h : hasK s = true
  · exact key_plain s w hs h
  · exact key_no s false w hs (by simpa using h)
theorem keyS_size (x : ByteArray) : (keyS false x).size ≤ x.size := by
  unfold keyS
  split
  · have : ((keyL false x).toArray).size ≤ x.size := by
      simp only [keyL, List.size_toArray]
      simp
      exact Nat.le_trans (Nat.min_le_left _ _) (sg_size x)
    exact this
  · exact Nat.zero_le _

theorem toList_nil {x : ByteArray} (h : x.size = 0) : x.toList = [] := by
  rw [Lib.toList_data]
  exact List.eq_nil_of_length_eq_zero (by rw [size_len]; exact h)
theorem toList_cons {x : ByteArray} (h : 0 < x.size) : ¬ x.toList = [] := by
  rw [Lib.toList_data]
  intro e
  have := size_len x
  rw [e] at this
  simp at this
  omega
theorem isEmpty_no {x : ByteArray} (h : 0 < x.size) : x.toList.isEmpty = false := by
  cases e : x.toList with
  | nil => exact absurd e (toList_cons h)
  | cons _ _ => rfl

theorem okI_empty {fold : Bool} {x : ByteArray} (h : x.size = 0) : okI fold x = false := by simp [okI, h]
theorem head_of {x : ByteArray} (h : 0 < x.size) : x.data.toList.head? = some (x[0]'h) := by
  have : 0 < x.data.toList.length := by rw [size_len]; exact h
  rw [← get_data h, List.head?_eq_getElem?, List.getElem?_eq_getElem this]
theorem okI_sign {fold : Bool} {x : ByteArray} (h : 0 < x.size) (e : (((x[0]'h).toNat : Int) == 61) = true) : okI fold x = false := by
  have : x[0] = 61 := by simpa using (byte_eq x[0] 61).symm.trans e
  simp [okI, head_of h, this]
theorem okI_plain {x : ByteArray} (h : 0 < x.size) (e : (((x[0]'h).toNat : Int) == 61) = false) : okI false x = true := by
  have h1 : ¬ x[0] = 61 := by simpa using (byte_eq x[0] 61).symm.trans e
  have h2 : x.size ≠ 0 := by omega
  simp [okI, head_of h, h1, h2]
theorem okI_fold {x : ByteArray} (h : 0 < x.size) (e : (((x[0]'h).toNat : Int) == 61) = false) : okI true x = asciiL (keyS false x).data.toList := by
  have h1 : ¬ x[0] = 61 := by simpa using (byte_eq x[0] 61).symm.trans e
  have h2 : x.size ≠ 0 := by omega
  simp [okI, head_of h, h1, h2]
theorem well_no {fold : Bool} {xs : List ByteArray} {k : Nat} {x : ByteArray} (hx : xs[k]? = some x) (h : okI fold x = false) : false = wellB fold xs := by
  have : xs.all (okI fold) = false := by
    rw [List.all_eq_false]
    exact ⟨x, List.mem_of_getElem? hx, by simp [h]⟩
  rw [wellB, this, Bool.false_and]
theorem well_step {fold : Bool} {xs : List ByteArray} {k : Nat} {x : ByteArray} (h : (xs.take k).all (okI fold) = true) (hx : xs[k]? = some x) (hs : okI fold x = true) : (xs.take (k + 1)).all (okI fold) = true := by
  rw [take_next hx, List.all_append, h]
  simp [hs]
theorem well_end {fold : Bool} {xs : List ByteArray} {k : Nat} (h : (xs.take k).all (okI fold) = true) (hk : xs.length ≤ k) : decide ((xs.length : Int) ≤ 1000) = wellB fold xs := by
  rw [List.take_of_length_le hk] at h
  rw [wellB, h, Bool.true_and]
  exact decide_eq_decide.2 (by omega)

set_option maxHeartbeats 400000 in
theorem well_empty (fold : Bool) (a : Option Addr) (cap : Nat) (w : World) :
    Calls Tryd.prog 9 #[.slice a 0 cap, .bool fold] w fun e w' => e = .returned (.bool true) ∧ w = w' := by
  go_enter Tryd.func9, Tryd.ntmps9
  go_wp2
  refine wp_loop_rounds 1 ?_
  rw [rounds_succ]
  go_wp2
  go_ret
  exact ⟨rfl, rfl⟩

set_option maxHeartbeats 400000 in
theorem well_plain (b o cap : Nat) (xs : List ByteArray) (w : World) (hn : xs.length ≤ 9223372036854775807) (hz : ∀ x ∈ xs, x.size ≤ 140737488355328) (hc : StrsAt w b o xs) :
    Calls Tryd.prog 9 #[.slice (some ⟨b, o, none⟩) xs.length cap, .bool false] w fun e w' => e = .returned (.bool (wellB false xs)) ∧ w = w' := by
  have HZ := Lib.hid hz
  clear hz
  go_enter Tryd.func9, Tryd.ntmps9
  go_wp2
  go_loop [6, 7, 8, 9, 12] (fun _ _ _ _ i => ∃ k : Nat, k ≤ xs.length ∧ (xs.take k).all (okI false) = true ∧ i = .int .i64 k) (fun _ _ _ _ i => xs.length - (intOf i).toNat)
  case atStart => exact ⟨0, Nat.zero_le _, rfl, rfl⟩
  case round =>
    obtain ⟨k, hk, hno, rfl⟩ := hrel
    have HA := Lib.hid hno
    clear hno
    by_cases hlt : k < xs.length
    · obtain ⟨x, hx⟩ := getElem?_of_lt hlt
      have hcell := hc k x hx
      have hsz := HZ.out x (List.mem_of_getElem? hx)
      have HX := Lib.hid hx
      clear hx
      have c := key_false x w hsz
      generalize keyS false x = kk at c
      generalize hasK x = hh at c
      by_cases h0 : x.size = 0
      · have HN := Lib.hid (okI_empty (fold := false) h0)
        have e0 := toList_nil h0
        clear h0 c
        go_wp2_with fail
        go_ret
        exact ⟨ret_bool (well_no HX.out HN.out), rfl⟩
      · have hp : 0 < x.size := by omega
        have e0 := toList_cons hp
        have e1 := isEmpty_no hp
        clear h0
        cases hb : (((x[0]'hp).toNat : Int) == 61) with
        | true =>
          have HN := Lib.hid (okI_sign (fold := false) hp hb)
          clear c
          go_wp2_with fail
          go_ret
          exact ⟨ret_bool (well_no HX.out HN.out), rfl⟩
        | false =>
          have HN := Lib.hid (okI_plain hp hb)
          go_wp2_with fail
          refine c.mono ?_
          rintro e w' ⟨rfl, rfl⟩
          go_wp2_with fail
          refine wp_loop_rounds 1 ?_
          rw [rounds_succ]
          go_wp2_with fail
          go_round
          case rel => exact ⟨k + 1, by omega, well_step HA.out HX.out HN.out, by go_num⟩
          case measure => simp [intOf]; omega
    · go_wp2_with fail
      go_ret
      exact ⟨ret_bool (well_end HA.out (by omega)), rfl⟩
theorem ascii_hit {s : ByteArray} {k : Nat} (h : k < s.size) (e : (128 : Int) ≤ (s[k].toNat : Int)) : asciiL s.data.toList = false := by
  rw [asciiL, List.all_eq_false]
  exact ⟨s[k], by rw [← get_data h]; exact List.getElem_mem _, by simp; omega⟩
theorem ascii_step {s : ByteArray} {k : Nat} (hk : asciiL (s.data.toList.take k) = true) (h : k < s.size) (e : (s[k].toNat : Int) < 128) : asciiL (s.data.toList.take (k + 1)) = true := by
  rw [List.take_succ_eq_append_getElem (by rw [size_len]; exact h), asciiL, List.all_append]
  rw [asciiL] at hk
  rw [hk, get_data h]
  simp
  omega
theorem ascii_end {s : ByteArray} {k : Nat} (hk : asciiL (s.data.toList.take k) = true) (h : ¬ k < s.size) : asciiL s.data.toList = true := by
  rwa [List.take_of_length_le (by rw [size_len]; omega)] at hk

set_option maxHeartbeats 1000000 in
set_option maxRecDepth 100000 in
theorem well_fold (b o cap : Nat) (xs : List ByteArray) (w : World) (hn : xs.length ≤ 9223372036854775807) (hz : ∀ x ∈ xs, x.size ≤ 140737488355328) (hc : StrsAt w b o xs) :
    Calls Tryd.prog 9 #[.slice (some ⟨b, o, none⟩) xs.length cap, .bool true] w fun e w' => e = .returned (.bool (wellB true xs)) ∧ w = w' := by
  have HZ := Lib.hid hz
  clear hz
  go_enter Tryd.func9, Tryd.ntmps9
  go_wp2
  go_loop [6, 7, 8, 9, 12] (fun _ _ _ _ i => ∃ k : Nat, k ≤ xs.length ∧ (xs.take k).all (okI true) = true ∧ i = .int .i64 k) (fun _ _ _ _ i => xs.length - (intOf i).toNat)
  case atStart => exact ⟨0, Nat.zero_le _, rfl, rfl⟩
  case round =>
    obtain ⟨k, hk, hno, rfl⟩ := hrel
    have HA := Lib.hid hno
    clear hno
    by_cases hlt : k < xs.length
    · obtain ⟨x, hx⟩ := getElem?_of_lt hlt
      have hcell := hc k x hx
      have hsz := HZ.out x (List.mem_of_getElem? hx)
      have HX := Lib.hid hx
      clear hx
      have c := key_false x w hsz
      have hks := keyS_size x
      by_cases h0 : x.size = 0
      · have HN := Lib.hid (okI_empty (fold := true) h0)
        have e0 := toList_nil h0
        clear h0 c
        go_wp2_with fail
        go_ret
        exact ⟨ret_bool (well_no HX.out HN.out), rfl⟩
      · have hp : 0 < x.size := by omega
        have e0 := toList_cons hp
        have e1 := isEmpty_no hp
        clear h0
        cases hb : (((x[0]'hp).toNat : Int) == 61) with
        | true =>
          have HN := Lib.hid (okI_sign (fold := true) hp hb)
          clear c
          go_wp2_with fail
          go_ret
          exact ⟨ret_bool (well_no HX.out HN.out), rfl⟩
        | false =>
          have HN := Lib.hid (okI_fold hp hb)
          generalize keyS false x = kk at c hks HN
          generalize hasK x = hh at c
          go_wp2_with fail
          refine c.mono ?_
          rintro e w' ⟨rfl, rfl⟩
          go_wp2_with fail
          go_loop [9] (fun i => ∃ j : Nat, j ≤ kk.size ∧ asciiL (kk.data.toList.take j) = true ∧ i = .int .i64 j) (fun i => kk.size - (intOf i).toNat)
          case atStart => exact ⟨0, Nat.zero_le _, rfl, rfl⟩
          case round =>
            obtain ⟨j, hj, hall, rfl⟩ := hrel
            have HJ := Lib.hid hall
            clear hall
            by_cases hjl : j < kk.size
            · by_cases h128 : (128 : Int) ≤ (kk[j].toNat : Int)
              · have HF := Lib.hid (HN.out.trans (ascii_hit hjl h128))
                go_wp2_with fail
                go_ret
                exact ⟨ret_bool (well_no HX.out HF.out), rfl⟩
              · have h128' : (kk[j].toNat : Int) < 128 := by omega
                have HF := Lib.hid (ascii_step HJ.out hjl h128')
                clear h128
                go_wp2_with fail
                go_round
                case rel => exact ⟨j + 1, by omega, HF.out, by go_num⟩
                case measure => simp [intOf]; omega
            · have HF := Lib.hid (HN.out.trans (ascii_end HJ.out hjl))
              go_wp2_with fail
              go_round
              case rel => exact ⟨k + 1, by omega, well_step HA.out HX.out HF.out, by go_num⟩
              case measure => simp [intOf]; omega
    · go_wp2_with fail
      go_ret
      exact ⟨ret_bool (well_end HA.out (by omega)), rfl⟩

theorem well_any (v : Value) (fold : Bool) (xs : List ByteArray) (w : World) (hn : xs.length ≤ 9223372036854775807) (hz : ∀ x ∈ xs, x.size ≤ 140737488355328) (hv : Strs w v xs) :
    Calls Tryd.prog 9 #[v, .bool fold] w fun e w' => e = .returned (.bool (wellB fold xs)) ∧ w = w' := by
  rcases hv with ⟨rfl, a, cap, _, rfl⟩ | ⟨_, b, o, cap, rfl, _, _, _, hc⟩
  · exact well_empty fold a cap w
  · cases fold with
    | false => exact well_plain b o cap xs w hn hz hc
    | true => exact well_fold b o cap xs w hn hz hc
end Go.Proofs.YtooajjeikfmieaaDoor
