/-
  What is proved here: the contracts of spec.Sign, spec.Nul and zzIndex at the text of one equals sign: what each returns for every string whose length is an int; the world stays. Conditions: the string's size is at most 2^63 - 1.
-/
import Derived.WalkKit
import Derived.WalkSpells
import Derived.Lib.Hide
import Derived.Lib.Strings
import Derived.Test.YtooajjeikfmieaaDoorProg
namespace Go.Proofs.YtooajjeikfmieaaDoor
open Go.RowKit

/-- where the first equals sign stands, or the length -/
def sg (l : List UInt8) : Nat := l.findIdx fun b => b == 61
/-- .. as the program says it: -1 where there is none -/
def sgI (l : List UInt8) : Int := if sg l < l.length then (sg l : Int) else -1
/-- a byte of 0 -/
def nulL (l : List UInt8) : Bool := l.any fun b => b == 0

theorem sg_le (l : List UInt8) : sg l ≤ l.length := List.findIdx_le_length
theorem sg_hit {l : List UInt8} {k : Nat} (hk : k ≤ sg l) (h : k < l.length) (e : l[k] = 61) : sgI l = k := by
  have : sg l = k := by
    refine Nat.le_antisymm ?_ hk
    refine Nat.le_of_not_lt fun hlt => ?_
    have := List.not_of_lt_findIdx hlt
    simp [e] at this
  rw [sgI, this, if_pos h]
theorem sg_miss {l : List UInt8} {k : Nat} (hk : k ≤ sg l) (h : k < l.length) (e : ¬ l[k] = 61) : k + 1 ≤ sg l := by
  refine Nat.lt_of_le_of_ne hk fun hh => e ?_
  have hl : l.findIdx (fun b => b == 61) < l.length := by show sg l < _; omega
  have := List.findIdx_getElem (p := fun b => b == 61) (xs := l) (w := hl)
  have e2 : l.findIdx (fun b => b == 61) = k := hh.symm
  simp only [e2] at this
  simpa using this
theorem sg_none {l : List UInt8} {k : Nat} (hk : k ≤ sg l) (h : l.length ≤ k) : sgI l = -1 := by
  rw [sgI, if_neg (by omega)]


theorem size_len (s : ByteArray) : s.data.toList.length = s.size := by simp only [Array.length_toList]; rfl
theorem get_data {s : ByteArray} {k : Nat} (h : k < s.size) : s.data.toList[k]'(by rw [size_len]; exact h) = s[k] := by simp only [Array.getElem_toList]; rfl
theorem byte_eq (b c : UInt8) : ((b.toNat : Int) == (c.toNat : Int)) = (b == c) := by
  rw [Bool.eq_iff_iff]
  simp only [beq_iff_eq]
  rw [← UInt8.toNat_inj]
  omega
theorem ret_int {a b : Int} (h : a = b) : Ending.returned (.int .i64 a) = .returned (.int .i64 b) := by rw [h]
theorem ret_bool {a b : Bool} (h : a = b) : Ending.returned (.bool a) = .returned (.bool b) := by rw [h]

theorem sgI_hit {s : ByteArray} {k : Nat} (hk : k ≤ sg s.data.toList) (h : k < s.size) (e : ((s[k].toNat : Int) == 61) = true) : (k : Int) = sgI s.data.toList := by
  refine (sg_hit hk (by rw [size_len]; exact h) ?_).symm
  rw [get_data h]
  simpa using (byte_eq s[k] 61).symm.trans e
theorem sg_step {s : ByteArray} {k : Nat} (hk : k ≤ sg s.data.toList) (h : k < s.size) (e : ((s[k].toNat : Int) == 61) = false) : k + 1 ≤ sg s.data.toList := by
  refine sg_miss hk (by rw [size_len]; exact h) ?_
  rw [get_data h]
  simpa using (byte_eq s[k] 61).symm.trans e
theorem sgI_end {s : ByteArray} {k : Nat} (hk : k ≤ sg s.data.toList) (h : ¬ k < s.size) : (-1 : Int) = sgI s.data.toList :=
  (sg_none hk (by rw [size_len]; omega)).symm

set_option maxHeartbeats 400000 in
theorem sign_any (s : ByteArray) (w : World) (hs : s.size ≤ 9223372036854775807) :
    Calls Tryd.prog 11 #[.string s] w fun e w' => e = .returned (.int .i64 (sgI s.data.toList)) ∧ w = w' := by
  go_enter Tryd.func11, Tryd.ntmps11
  go_wp2
  go_loop [3] (fun i => ∃ k : Nat, k ≤ s.size ∧ k ≤ sg s.data.toList ∧ i = .int .i64 k) (fun i => s.size - (intOf i).toNat)
  case atStart => exact ⟨0, Nat.zero_le _, Nat.zero_le _, rfl⟩
  case round =>
    obtain ⟨k, hk, hsg, rfl⟩ := hrel
    by_cases hlt : k < s.size
    · go_wp2
      · go_ret
        exact ⟨ret_int (sgI_hit hsg hlt (by assumption)), rfl⟩
      · go_round
        case rel => exact ⟨k + 1, by omega, sg_step hsg hlt (by assumption), by go_num⟩
        case measure => simp [intOf]; omega
    · go_wp2
      go_ret
      exact ⟨ret_int (sgI_end hsg hlt), rfl⟩

/-- a byte of 0, as far as the k-th byte -/
theorem nul_hit {s : ByteArray} {k : Nat} (h : k < s.size) (e : ((s[k].toNat : Int) == 0) = true) : true = nulL s.data.toList := by
  refine (List.any_eq_true.2 ⟨s[k], ?_, ?_⟩).symm
  · rw [← get_data h]; exact List.getElem_mem _
  · exact (byte_eq s[k] 0).symm.trans e
theorem nul_step {s : ByteArray} {k : Nat} (hk : nulL (s.data.toList.take k) = false) (h : k < s.size) (e : ((s[k].toNat : Int) == 0) = false) : nulL (s.data.toList.take (k + 1)) = false := by
  rw [List.take_succ_eq_append_getElem (by rw [size_len]; exact h), nulL, List.any_append]
  rw [nulL] at hk
  rw [hk, get_data h]
  have := (byte_eq s[k] 0).symm.trans e
  simpa using this
theorem nul_end {s : ByteArray} {k : Nat} (hk : nulL (s.data.toList.take k) = false) (h : ¬ k < s.size) : false = nulL s.data.toList := by
  rw [List.take_of_length_le (by rw [size_len]; omega)] at hk
  exact hk.symm

set_option maxHeartbeats 400000 in
theorem nul_any (s : ByteArray) (w : World) (hs : s.size ≤ 9223372036854775807) :
    Calls Tryd.prog 20 #[.string s] w fun e w' => e = .returned (.bool (nulL s.data.toList)) ∧ w = w' := by
  go_enter Tryd.func20, Tryd.ntmps20
  go_wp2
  go_loop [3] (fun i => ∃ k : Nat, k ≤ s.size ∧ nulL (s.data.toList.take k) = false ∧ i = .int .i64 k) (fun i => s.size - (intOf i).toNat)
  case atStart => exact ⟨0, Nat.zero_le _, rfl, rfl⟩
  case round =>
    obtain ⟨k, hk, hno, rfl⟩ := hrel
    have HN := Lib.hid hno
    clear hno
    by_cases hlt : k < s.size
    · go_wp2
      · go_ret
        exact ⟨ret_bool (nul_hit hlt (by assumption)), rfl⟩
      · go_round
        case rel => exact ⟨k + 1, by omega, nul_step HN.out hlt (by assumption), by go_num⟩
        case measure => simp [intOf]; omega
    · go_wp2
      go_ret
      exact ⟨ret_bool (nul_end HN.out hlt), rfl⟩

theorem one_eq {s : ByteArray} {k : Nat} (h : k < s.size) : ((s.extract k (k + 1)).toList == [61]) = ((s[k].toNat : Int) == 61) := by
  have hk : k < s.data.toList.length := by rw [size_len]; exact h
  have e : (s.extract k (k + 1)).toList = [s[k]] := by
    rw [Lib.extract_toList, show k + 1 - k = 1 by omega, ← get_data h, List.drop_eq_getElem_cons hk]
    simp
  rw [e, show ((s[k].toNat : Int) == 61) = (s[k] == 61) from byte_eq s[k] 61]
  rw [Bool.eq_iff_iff]
  simp

set_option maxHeartbeats 400000 in
/-- zzIndex at the text of one equals sign -/
theorem index_eq (s : ByteArray) (w : World) (hs : s.size ≤ 9223372036854775806) :
    Calls Tryd.prog 24 #[.string s, .string ⟨#[61]⟩] w fun e w' => e = .returned (.int .i64 (sgI s.data.toList)) ∧ w = w' := by
  go_enter Tryd.func24, Tryd.ntmps24
  go_wp2
  go_loop [5] (fun i => ∃ k : Nat, k ≤ s.size ∧ k ≤ sg s.data.toList ∧ i = .int .i64 k) (fun i => s.size - (intOf i).toNat)
  case atStart => exact ⟨0, Nat.zero_le _, Nat.zero_le _, rfl⟩
  case round =>
    obtain ⟨k, hk, hsg, rfl⟩ := hrel
    by_cases hlt : k < s.size
    · go_wp2
      · go_ret
        exact ⟨ret_int (sgI_hit hsg hlt (one_eq hlt ▸ by assumption)), rfl⟩
      · go_round
        case rel => exact ⟨k + 1, by omega, sg_step hsg hlt (one_eq hlt ▸ by assumption), by go_num⟩
        case measure => simp [intOf]; omega
    · go_wp2
      go_ret
      exact ⟨ret_int (sgI_end hsg hlt), rfl⟩
end Go.Proofs.YtooajjeikfmieaaDoor
