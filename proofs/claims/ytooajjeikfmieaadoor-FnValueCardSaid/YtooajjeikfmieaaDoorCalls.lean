/-
  What is proved here: what dedupEnvCase's callees of the library do at its own arguments: strings.ToLower of a key of ASCII, strings.IndexByte of a byte of 0, errors.New. Conditions: the text takes at most 2^47 bytes; the key is of ASCII.
-/
import Derived.Test.YtooajjeikfmieaaDoorShelf
import Derived.Test.YtooajjeikfmieaaDoorOwn
import Derived.Test.YtooajjeikfmieaaDoorWell
namespace Go.Proofs.YtooajjeikfmieaaDoor
open Go.RowKit

theorem lower_key (x : ByteArray) (w : World) (hs : x.size ≤ 140737488355328) (h : hasK x = true) (ha : asciiL (keyS false x).data.toList = true) :
    Calls Go.Proofs.Tryd.prog 25 #[.string (keyS false x)] w fun e w' => e = .returned (.string (keyS true x)) ∧ Below w.heap.size w w' := by
  have hsz := keyS_size x
  have hb : ∀ (j : Nat) (b : UInt8), (keyS false x).data.toList[j]? = some b → b.toNat < 128 := fun j b hj => by
    rw [asciiL, List.all_eq_true] at ha
    simpa using ha b (List.mem_of_getElem? hj)
  have c := Tryd.strings_ToLower_ascii (keyS false x) w (by omega) hb
  have e : (⟨(Lib.toLowerA (keyS false x).data.toList).toArray⟩ : ByteArray) = keyS true x := by simp [keyS, h, keyL]
  rw [e] at c
  exact c

theorem indexByte_zero : ∀ l : List UInt8, (nulL l = false → Lib.indexByte l 0 = -1) ∧ (nulL l = true → ∃ p : Nat, Lib.indexByte l 0 = p)
  | [] => ⟨fun _ => rfl, fun h => by simp [nulL] at h⟩
  | b :: l => by
    obtain ⟨h1, h2⟩ := indexByte_zero l
    unfold Lib.indexByte
    cases hb : b == 0 with
    | true =>
      refine ⟨fun h => ?_, fun _ => ⟨0, by simp⟩⟩
      simp [nulL] at h
      simp [h.1] at hb
    | false =>
      have hn : nulL (b :: l) = nulL l := by simp only [nulL, List.any_cons, hb, Bool.false_or]
      rw [hn]
      refine ⟨fun h => by simp [h1 h], fun h => ?_⟩
      obtain ⟨p, hp⟩ := h2 h
      refine ⟨p + 1, ?_⟩
      rw [hp]
      have : ((p : Int) == -1) = false := by simp
      simp [this]

theorem index_no (x : ByteArray) (w : World) (h : nulS x = false) :
    Calls Go.Proofs.Tryd.prog 22 #[.string x, .int .u8 0] w fun e w' => e = .returned (.int .i64 (-1)) ∧ w = w' := by
  refine (Tryd.strings_IndexByte x 0 w).mono ?_
  rintro e w' ⟨rfl, rfl⟩
  exact ⟨ret_int ((indexByte_zero _).1 h), rfl⟩
theorem index_yes (x : ByteArray) (w : World) (h : nulS x = true) :
    Calls Go.Proofs.Tryd.prog 22 #[.string x, .int .u8 0] w fun e w' => (∃ p : Nat, e = .returned (.int .i64 p)) ∧ w = w' := by
  refine (Tryd.strings_IndexByte x 0 w).mono ?_
  rintro e w' ⟨rfl, rfl⟩
  obtain ⟨p, hp⟩ := (indexByte_zero _).2 h
  exact ⟨⟨p, ret_int hp⟩, rfl⟩

set_option maxHeartbeats 400000 in
theorem error_any (s : ByteArray) (w : World) :
    Calls Go.Proofs.Tryd.prog 23 #[.string s] w fun e w' => (∃ p, e = .returned (.iface 47 (.pointer (some p)))) ∧ Below w.heap.size w w' := by
  go_enter Tryd.func23, Tryd.ntmps23
  go_wp2
  go_ret
  exact ⟨⟨_, rfl⟩, (Below.refl _ _).alloc (Nat.le_refl _) _⟩
theorem okI_size {fold : Bool} {x : ByteArray} (h : okI fold x = true) : 0 < x.size := by
  simp only [okI, Bool.and_eq_true, decide_eq_true_eq] at h
  have := h.1.1
  omega
theorem okI_sg {fold : Bool} {x : ByteArray} (h : okI fold x = true) (hK : hasK x = true) : 0 < sg x.data.toList := by
  have hp := okI_size h
  have hlt : sg x.data.toList < x.size := by simpa [hasK] using hK
  refine Nat.pos_of_ne_zero fun e => ?_
  have hl : 0 < x.data.toList.length := by rw [size_len]; exact hp
  have h2 : x.data.toList[0] = 61 := by
    have hw : List.findIdx (fun b => b == 61) x.data.toList < x.data.toList.length := by rw [size_len]; exact hlt
    have := List.findIdx_getElem (p := fun b => b == 61) (xs := x.data.toList) (w := hw)
    have e2 : List.findIdx (fun b => b == 61) x.data.toList = 0 := e
    simp only [e2] at this
    simpa using this
  simp only [okI, Bool.and_eq_true] at h
  have h3 := h.1.2
  rw [List.head?_eq_getElem?, List.getElem?_eq_getElem hl, h2] at h3
  simp at h3
theorem okI_ascii {x : ByteArray} (h : okI true x = true) : asciiL (keyS false x).data.toList = true := by
  simp only [okI, Bool.and_eq_true] at h
  simpa using h.2
theorem keyS_size2 (fold : Bool) (x : ByteArray) : (keyS fold x).size ≤ x.size := by
  cases fold with
  | false => exact keyS_size x
  | true =>
    refine Nat.le_trans ?_ (keyS_size x)
    unfold keyS
    split
    · have : ((keyL true x).toArray).size ≤ ((keyL false x).toArray).size := by simp [keyL, Lib.toLowerA]
      exact this
    · exact Nat.le_refl _
theorem idx_yes (s : ByteArray) (w : World) (hs : s.size ≤ 9223372036854775806) (h : hasK s = true) :
    Calls Go.Proofs.Tryd.prog 24 #[.string s, .string ⟨#[61]⟩] w fun e w' => e = .returned (.int .i64 (sg s.data.toList)) ∧ w = w' := by
  rw [← sgI_yes h]
  exact index_eq s w hs
theorem idx_no (s : ByteArray) (w : World) (hs : s.size ≤ 9223372036854775806) (h : hasK s = false) :
    Calls Go.Proofs.Tryd.prog 24 #[.string s, .string ⟨#[61]⟩] w fun e w' => e = .returned (.int .i64 (-1)) ∧ w = w' := by
  rw [← sgI_no h]
  exact index_eq s w hs
end Go.Proofs.YtooajjeikfmieaaDoor
