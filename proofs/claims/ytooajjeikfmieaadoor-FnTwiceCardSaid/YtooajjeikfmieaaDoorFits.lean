/-
  What is proved here: what it means that a slice value reads as a list of strings, and the contracts of zzFits1 and spec.Any over such a slice: what each returns; the world stays. Conditions: the list's length is an int.
-/
import Derived.Test.YtooajjeikfmieaaDoorKey
namespace Go.Proofs.YtooajjeikfmieaaDoor
open Go.RowKit

/-- the strings xs lie at block b from o on -/
def StrsAt (w : World) (b o : Nat) (xs : List ByteArray) : Prop := ∀ (i : Nat) (x : ByteArray), xs[i]? = some x → w.cell? ⟨b, o + i, none⟩ = some (.string x)

/-- the slice value v reads as the strings xs -/
def Strs (w : World) (v : Value) (xs : List ByteArray) : Prop :=
  (xs = [] ∧ ∃ a cap, (a = none → cap = 0) ∧ v = .slice a 0 cap) ∨
  (xs ≠ [] ∧ ∃ b o cap, v = .slice (some ⟨b, o, none⟩) xs.length cap ∧ xs.length ≤ cap ∧ cap ≤ maxLen ∧ b < w.heap.size ∧ StrsAt w b o xs)

theorem StrsAt.below {B : Nat} {w w' : World} {b o : Nat} {xs : List ByteArray} (h : StrsAt w b o xs) (hb : Below B w w') (hB : b < B) : StrsAt w' b o xs :=
  fun i x hx => (hb.cell (p := ⟨b, o + i, none⟩) hB).trans (h i x hx)
theorem Strs.below {w w' : World} {v : Value} {xs : List ByteArray} (h : Strs w v xs) (hb : Below w.heap.size w w') : Strs w' v xs := by
  rcases h with h | ⟨hne, b, o, cap, hv, hl, hm, hs, hc⟩
  · exact .inl h
  · exact .inr ⟨hne, b, o, cap, hv, hl, hm, Nat.lt_of_lt_of_le hs hb.size, hc.below hb hs⟩

theorem getElem?_of_lt {xs : List ByteArray} {k : Nat} (h : k < xs.length) : ∃ x, xs[k]? = some x := ⟨xs[k], List.getElem?_eq_getElem h⟩
theorem take_next {xs : List ByteArray} {k : Nat} {x : ByteArray} (hx : xs[k]? = some x) : xs.take (k + 1) = xs.take k ++ [x] := by
  rw [List.take_add_one, hx]
  rfl

/-- nothing longer than 2^31 - 1 -/
def fitsB (xs : List ByteArray) : Bool := decide (xs.length ≤ 2147483647) && xs.all fun x => decide (x.size ≤ 2147483647)

theorem fits_long {xs : List ByteArray} (h : 2147483647 < xs.length) : false = fitsB xs := by
  rw [fitsB, decide_eq_false (by omega)]
  rfl
theorem fits_step {xs : List ByteArray} {k : Nat} {x : ByteArray} (h : (xs.take k).all (fun x => decide (x.size ≤ 2147483647)) = true) (hx : xs[k]? = some x) (hs : x.size ≤ 2147483647) : (xs.take (k + 1)).all (fun x => decide (x.size ≤ 2147483647)) = true := by
  rw [take_next hx, List.all_append, h]
  simpa using hs
theorem fits_hit {xs : List ByteArray} {k : Nat} {x : ByteArray} (hx : xs[k]? = some x) (hs : 2147483647 < x.size) : false = fitsB xs := by
  have : (xs.all fun x => decide (x.size ≤ 2147483647)) = false := by
    rw [List.all_eq_false]
    exact ⟨x, List.mem_of_getElem? hx, by simp; omega⟩
  rw [fitsB, this, Bool.and_false]
theorem fits_end {xs : List ByteArray} {k : Nat} (h : (xs.take k).all (fun x => decide (x.size ≤ 2147483647)) = true) (hk : xs.length ≤ k) (hn : xs.length ≤ 2147483647) : true = fitsB xs := by
  rw [List.take_of_length_le hk] at h
  rw [fitsB, h, decide_eq_true hn]
  rfl

set_option maxHeartbeats 400000 in
theorem fits_empty (a : Option Addr) (cap : Nat) (w : World) :
    Calls Tryd.prog 8 #[.slice a 0 cap] w fun e w' => e = .returned (.bool true) ∧ w = w' := by
  go_enter Tryd.func8, Tryd.ntmps8
  go_wp2
  refine wp_loop_rounds 1 ?_
  rw [rounds_succ]
  go_wp2
  go_ret
  exact ⟨rfl, rfl⟩

set_option maxHeartbeats 400000 in
theorem fits_at (b o cap : Nat) (xs : List ByteArray) (w : World) (hn : xs.length ≤ 9223372036854775807) (hc : StrsAt w b o xs) :
    Calls Tryd.prog 8 #[.slice (some ⟨b, o, none⟩) xs.length cap] w fun e w' => e = .returned (.bool (fitsB xs)) ∧ w = w' := by
  by_cases hl : xs.length ≤ 2147483647
  · go_enter Tryd.func8, Tryd.ntmps8
    go_wp2
    go_loop [4, 10] (fun _ i => ∃ k : Nat, k ≤ xs.length ∧ (xs.take k).all (fun x => decide (x.size ≤ 2147483647)) = true ∧ i = .int .i64 k) (fun _ i => xs.length - (intOf i).toNat)
    case atStart => exact ⟨0, Nat.zero_le _, rfl, rfl⟩
    case round =>
      obtain ⟨k, hk, hall, rfl⟩ := hrel
      have HA := Lib.hid hall
      clear hall
      by_cases hlt : k < xs.length
      · obtain ⟨x, hx⟩ := getElem?_of_lt hlt
        have hcell := hc k x hx
        have HX := Lib.hid hx
        clear hx
        by_cases hs : x.size ≤ 2147483647
        · go_wp2
          go_round
          case rel => exact ⟨k + 1, by omega, fits_step HA.out HX.out hs, by go_num⟩
          case measure => simp [intOf]; omega
        · have hs' : 2147483647 < x.size := by omega
          clear hs
          go_wp2
          go_ret
          exact ⟨ret_bool (fits_hit HX.out hs'), rfl⟩
      · go_wp2
        go_ret
        exact ⟨ret_bool (fits_end HA.out (by omega) hl), rfl⟩
  · have hl' : 2147483647 < xs.length := by omega
    clear hl
    go_enter Tryd.func8, Tryd.ntmps8
    go_wp2
    go_ret
    exact ⟨ret_bool (fits_long hl'), rfl⟩

theorem fits_any (v : Value) (xs : List ByteArray) (w : World) (hn : xs.length ≤ 9223372036854775807) (hv : Strs w v xs) :
    Calls Tryd.prog 8 #[v] w fun e w' => e = .returned (.bool (fitsB xs)) ∧ w = w' := by
  rcases hv with ⟨rfl, a, cap, _, rfl⟩ | ⟨_, b, o, cap, rfl, _, _, _, hc⟩
  · exact fits_empty a cap w
  · exact fits_at b o cap xs w hn hc

/-- some item has a byte of 0 -/
def nulS (x : ByteArray) : Bool := nulL x.data.toList

set_option maxHeartbeats 400000 in
theorem any_empty (a : Option Addr) (cap : Nat) (w : World) :
    Calls Tryd.prog 15 #[.slice a 0 cap] w fun e w' => e = .returned (.bool false) ∧ w = w' := by
  go_enter Tryd.func15, Tryd.ntmps15
  go_wp2
  refine wp_loop_rounds 1 ?_
  rw [rounds_succ]
  go_wp2
  go_ret
  exact ⟨rfl, rfl⟩

theorem any_hit {xs : List ByteArray} {k : Nat} {x : ByteArray} (hx : xs[k]? = some x) (h : nulS x = true) : true = xs.any nulS :=
  (List.any_eq_true.2 ⟨x, List.mem_of_getElem? hx, h⟩).symm
theorem any_step {xs : List ByteArray} {k : Nat} {x : ByteArray} (h : (xs.take k).any nulS = false) (hx : xs[k]? = some x) (hs : nulS x = false) : (xs.take (k + 1)).any nulS = false := by
  rw [take_next hx, List.any_append, h]
  simp [hs]
theorem any_end {xs : List ByteArray} {k : Nat} (h : (xs.take k).any nulS = false) (hk : xs.length ≤ k) : false = xs.any nulS := by
  rw [List.take_of_length_le hk] at h
  exact h.symm
theorem nul_is (s : ByteArray) (w : World) (x : Bool) (hs : s.size ≤ 9223372036854775807) (h : nulS s = x) :
    Calls Tryd.prog 20 #[.string s] w fun e w' => e = .returned (.bool x) ∧ w = w' := by
  rw [← h]
  exact nul_any s w hs

set_option maxHeartbeats 400000 in
theorem any_at (b o cap : Nat) (xs : List ByteArray) (w : World) (hn : xs.length ≤ 9223372036854775807) (hz : ∀ x ∈ xs, x.size ≤ 9223372036854775807) (hc : StrsAt w b o xs) :
    Calls Tryd.prog 15 #[.slice (some ⟨b, o, none⟩) xs.length cap] w fun e w' => e = .returned (.bool (xs.any nulS)) ∧ w = w' := by
  have HZ := Lib.hid hz
  clear hz
  go_enter Tryd.func15, Tryd.ntmps15
  go_wp2
  go_loop [4, 7] (fun _ i => ∃ k : Nat, k ≤ xs.length ∧ (xs.take k).any nulS = false ∧ i = .int .i64 k) (fun _ i => xs.length - (intOf i).toNat)
  case atStart => exact ⟨0, Nat.zero_le _, rfl, rfl⟩
  case round =>
    obtain ⟨k, hk, hno, rfl⟩ := hrel
    have HA := Lib.hid hno
    clear hno
    by_cases hlt : k < xs.length
    · obtain ⟨x, hx⟩ := getElem?_of_lt hlt
      have hcell := hc k x hx
      have hsz := HZ.out x (List.mem_of_getElem? hx)
      have HX := Lib.hid hx
      clear hx
      cases hs : nulS x with
      | true =>
        have c := nul_is x w true hsz hs
        have HS := Lib.hid hs
        clear hs
        go_wp2_with fail
        refine c.mono ?_
        rintro e w' ⟨rfl, rfl⟩
        go_wp2_with fail
        go_ret
        exact ⟨ret_bool (any_hit HX.out HS.out), rfl⟩
      | false =>
        have c := nul_is x w false hsz hs
        have HS := Lib.hid hs
        clear hs
        go_wp2_with fail
        refine c.mono ?_
        rintro e w' ⟨rfl, rfl⟩
        go_wp2_with fail
        go_round
        case rel => exact ⟨k + 1, by omega, any_step HA.out HX.out HS.out, by go_num⟩
        case measure => simp [intOf]; omega
    · go_wp2_with fail
      go_ret
      exact ⟨ret_bool (any_end HA.out (by omega)), rfl⟩

theorem any_any (v : Value) (xs : List ByteArray) (w : World) (hn : xs.length ≤ 9223372036854775807) (hz : ∀ x ∈ xs, x.size ≤ 9223372036854775807) (hv : Strs w v xs) :
    Calls Tryd.prog 15 #[v] w fun e w' => e = .returned (.bool (xs.any nulS)) ∧ w = w' := by
  rcases hv with ⟨rfl, a, cap, _, rfl⟩ | ⟨_, b, o, cap, rfl, _, _, _, hc⟩
  · exact any_empty a cap w
  · exact any_at b o cap xs w hn hz hc
end Go.Proofs.YtooajjeikfmieaaDoor
