/-
  What is proved here: the contract of spec.Key: it returns the text ahead of the first equals sign (in small letters, if asked) and whether there is one; below the heap's end the world is as it was. Conditions: the item takes at most 2^47 bytes.
-/
import Derived.Test.YtooajjeikfmieaaDoorLower
namespace Go.Proofs.YtooajjeikfmieaaDoor
open Go.RowKit

/-- has the item a key? -/
def hasK (s : ByteArray) : Bool := decide (sg s.data.toList < s.size)
/-- the key's bytes -/
def keyL (fold : Bool) (s : ByteArray) : List UInt8 := if fold then Lib.toLowerA (s.data.toList.take (sg s.data.toList)) else s.data.toList.take (sg s.data.toList)
/-- what spec.Key returns first -/
def keyS (fold : Bool) (s : ByteArray) : ByteArray := if hasK s = true then ⟨(keyL fold s).toArray⟩ else ⟨#[]⟩
/-- the key as a plain law has it -/
def keyO (fold : Bool) (s : ByteArray) : Option (List UInt8) := if hasK s = true then some (keyL fold s) else none

theorem sgI_yes {s : ByteArray} (h : hasK s = true) : sgI s.data.toList = (sg s.data.toList : Int) := by
  rw [sgI, if_pos (by rw [size_len]; simpa [hasK] using h)]
theorem sgI_no {s : ByteArray} (h : hasK s = false) : sgI s.data.toList = -1 := by
  rw [sgI, if_neg (by rw [size_len]; simpa [hasK] using h)]
theorem sg_size (s : ByteArray) : sg s.data.toList ≤ s.size := by
  have := sg_le s.data.toList
  rwa [size_len] at this
theorem keyS_plain {s : ByteArray} (h : hasK s = true) : s.extract 0 (sg s.data.toList) = keyS false s := by
  rw [Lib.extract_eq, keyS, if_pos h, keyL]
  simp
theorem keyS_fold {s : ByteArray} (h : hasK s = true) : (⟨(Lib.toLowerA (s.data.toList.take (sg s.data.toList))).toArray⟩ : ByteArray) = keyS true s := by
  rw [keyS, if_pos h, keyL]
  simp
theorem keyS_no {fold : Bool} {s : ByteArray} (h : hasK s = false) : (⟨#[]⟩ : ByteArray) = keyS fold s := by
  rw [keyS, h]
  simp
theorem ret_key {a b : ByteArray} {x y : Bool} (h : a = b) (k : x = y) : Ending.returned (.tuple #[.string a, .bool x]) = .returned (.tuple #[.string b, .bool y]) := by rw [h, k]

theorem sign_yes (s : ByteArray) (w : World) (hs : s.size ≤ 9223372036854775807) (h : hasK s = true) :
    Calls Tryd.prog 11 #[.string s] w fun e w' => e = .returned (.int .i64 (sg s.data.toList)) ∧ w = w' := by
  rw [← sgI_yes h]
  exact sign_any s w hs
theorem sign_no (s : ByteArray) (w : World) (hs : s.size ≤ 9223372036854775807) (h : hasK s = false) :
    Calls Tryd.prog 11 #[.string s] w fun e w' => e = .returned (.int .i64 (-1)) ∧ w = w' := by
  rw [← sgI_no h]
  exact sign_any s w hs

set_option maxHeartbeats 400000 in
theorem key_no (s : ByteArray) (fold : Bool) (w : World) (hs : s.size ≤ 140737488355328) (h : hasK s = false) :
    Calls Tryd.prog 14 #[.string s, .bool fold] w fun e w' => e = .returned (.tuple #[.string (keyS fold s), .bool (hasK s)]) ∧ w = w' := by
  have c := sign_no s w (by omega) h
  have H := Lib.hid h
  clear h
  go_enter Tryd.func14, Tryd.ntmps14
  go_wp2_with fail
  refine c.mono ?_
  rintro e w' ⟨rfl, rfl⟩
  go_wp2_with fail
  go_ret2
  exact ⟨ret_key (keyS_no H.out) H.out.symm, rfl⟩

set_option maxHeartbeats 400000 in
theorem key_plain (s : ByteArray) (w : World) (hs : s.size ≤ 140737488355328) (h : hasK s = true) :
    Calls Tryd.prog 14 #[.string s, .bool false] w fun e w' => e = .returned (.tuple #[.string (keyS false s), .bool (hasK s)]) ∧ w = w' := by
  have c := sign_yes s w (by omega) h
  have hle := sg_size s
  have hk := keyS_plain h
  generalize sg s.data.toList = n at c hle hk
  have H := Lib.hid h
  have HK := Lib.hid hk
  clear h hk
  go_enter Tryd.func14, Tryd.ntmps14
  go_wp2_with fail
  refine c.mono ?_
  rintro e w' ⟨rfl, rfl⟩
  go_wp2_with fail
  go_ret2
  exact ⟨ret_key HK.out H.out.symm, rfl⟩

set_option maxHeartbeats 400000 in
theorem key_fold (s : ByteArray) (w : World) (hs : s.size ≤ 140737488355328) (h : hasK s = true) :
    Calls Tryd.prog 14 #[.string s, .bool true] w fun e w' => e = .returned (.tuple #[.string (keyS true s), .bool (hasK s)]) ∧ Below w.heap.size w w' := by
  have c := sign_yes s w (by omega) h
  have hle := sg_size s
  have hk := keyS_fold h
  have d := lower_any (s.extract 0 (sg s.data.toList)) w (by simp; omega)
  generalize sg s.data.toList = n at c hle hk d
  have H := Lib.hid h
  have HK := Lib.hid hk
  clear h hk
  go_enter Tryd.func14, Tryd.ntmps14
  go_wp2_with fail
  refine c.mono ?_
  rintro e w' ⟨rfl, rfl⟩
  go_wp2_with fail
  refine d.mono ?_
  rintro e w' ⟨rfl, hb⟩
  go_wp2_with fail
  go_ret2
  exact ⟨ret_key HK.out H.out.symm, hb⟩

theorem key_any (s : ByteArray) (fold : Bool) (w : World) (hs : s.size ≤ 140737488355328) :
    Calls Tryd.prog 14 #[.string s, .bool fold] w fun e w' => e = .returned (.tuple #[.string (keyS fold s), .bool (hasK s)]) ∧ Below w.heap.size w w' := by
  by_cases h : hasK s = true
  · cases fold with
    | false =>
      refine (key_plain s w hs h).mono ?_
      rintro e w' ⟨he, rfl⟩
      exact ⟨he, Below.refl _ _⟩
    | true => exact key_fold s w hs h
  · refine (key_no s fold w hs (by simpa using h)).mono ?_
    rintro e w' ⟨he, rfl⟩
    exact ⟨he, Below.refl _ _⟩
end Go.Proofs.YtooajjeikfmieaaDoor
