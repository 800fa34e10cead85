/-
  What is proved here: the contract of spec.Lower: it returns the text with the capital letters of ASCII made small, and below the heap's end the world is as it was. Conditions: the text takes at most 2^47 bytes.
-/
import Derived.Test.YtooajjeikfmieaaDoorStr
import Derived.Lib.Case
import Derived.Laws.IdiomStrings
namespace Go.Proofs.YtooajjeikfmieaaDoor
open Go.RowKit

/-- block B is a row of bytes, marked behind its end, whose first bytes are l -/
def BRow (w : World) (B : Nat) (l : List UInt8) : Prop :=
  ∃ C : Array Value, w.heap[B]? = some (.cells C 5 (C.size, C.size + 1)) ∧ l.length ≤ C.size ∧ ∀ (j : Nat) (h : j < l.length), C[j]? = some (.int .u8 (l[j].toNat : Int))

theorem BRow.cell {w : World} {B : Nat} {l : List UInt8} (h : BRow w B l) {j : Nat} (hj : j < l.length) : w.cell? ⟨B, j, none⟩ = some (.int .u8 (l[j].toNat : Int)) := by
  obtain ⟨C, hb, _, hc⟩ := h
  unfold World.cell?
  rw [hb]
  simpa using hc j hj
theorem BRow.frozen {w : World} {B : Nat} {l : List UInt8} (h : BRow w B l) {j : Nat} (hj : j < l.length) : w.frozen? ⟨B, j, none⟩ = false := by
  obtain ⟨C, hb, hs, _⟩ := h
  unfold World.frozen?
  rw [hb]
  simp
  omega
theorem BRow.set {w : World} {B : Nat} {l : List UInt8} (h : BRow w B l) {j : Nat} (hj : j < l.length) (b : UInt8) : BRow (w.setCell ⟨B, j, none⟩ (.int .u8 (b.toNat : Int))) B (l.set j b) := by
  obtain ⟨C, hb, hs, hc⟩ := h
  refine ⟨C.setIfInBounds j (.int .u8 (b.toNat : Int)), ?_, by simpa using hs, fun i hi => ?_⟩
  · simp only [World.setCell, Array.getElem?_modify, if_true, hb, Option.map_some]
    simp
  · simp only [List.length_set] at hi
    rw [Array.getElem?_setIfInBounds]
    by_cases e : j = i
    · subst e
      rw [if_pos rfl, if_pos (by omega)]
      simp
    · rw [if_neg e, hc i hi]
      simp [e]
theorem BRow.made (w : World) (s : ByteArray) (cap : Nat) : BRow (w.drew.alloc (.cells (bytesRow s cap) 5 ((bytesRow s cap).size, (bytesRow s cap).size + 1))) w.heap.size s.data.toList := by
  refine ⟨bytesRow s cap, ?_, ?_, fun j h => ?_⟩
  · show (w.heap.push _)[w.heap.size]? = _
    simp
  · simp [bytesRow]
  · have hj : j < s.data.size := by simpa using h
    rw [bytesRow_at s cap j hj]
    simp

/-- the small letters so far, the rest as it stood -/
def mix (l : List UInt8) (k : Nat) : List UInt8 := (Lib.toLowerA l).take k ++ l.drop k
theorem mix_zero (l : List UInt8) : mix l 0 = l := by simp [mix]
theorem mix_all {l : List UInt8} {k : Nat} (h : l.length ≤ k) : mix l k = Lib.toLowerA l := by
  rw [mix, List.drop_eq_nil_of_le h, List.append_nil, List.take_of_length_le (by simpa [Lib.toLowerA] using h)]
theorem mix_length (l : List UInt8) (k : Nat) : (mix l k).length = l.length := by
  simp [mix, Lib.toLowerA]; omega
theorem mix_get {l : List UInt8} {k : Nat} (h : k < l.length) : (mix l k)[k]'(by rw [mix_length]; exact h) = l[k] := by
  have h1 : ((Lib.toLowerA l).take k).length = k := by simp [Lib.toLowerA]; omega
  simp only [mix]
  rw [List.getElem_append_right (by omega)]
  simp [h1]
theorem mix_succ {l : List UInt8} {k : Nat} (h : k < l.length) : mix l (k + 1) = (mix l k).set k (Lib.lowerB l[k]) := by
  have h1 : ((Lib.toLowerA l).take k).length = k := by simp [Lib.toLowerA]; omega
  have h2 : k < (Lib.toLowerA l).length := by simpa [Lib.toLowerA] using h
  have h3 : (Lib.toLowerA l)[k] = Lib.lowerB l[k] := by simp [Lib.toLowerA]
  rw [mix, mix, List.take_succ_eq_append_getElem h2, h3, List.append_assoc, List.set_append, if_neg (by omega), h1, List.drop_eq_getElem_cons h, Nat.sub_self]
  rfl
theorem mix_keep {l : List UInt8} {k : Nat} (h : k < l.length) (e : Lib.isUpperB l[k] = false) : mix l (k + 1) = mix l k := by
  rw [mix_succ h, Lib.lowerB_of_not _ e, ← mix_get h]
  exact List.set_getElem_self _

/-- the loop's relation: k rounds have been made -/
def LowAt (W : World) (s : ByteArray) (k : Nat) (wr : World) : Prop := BRow wr W.heap.size (mix s.data.toList k) ∧ Below W.heap.size W wr

theorem LowAt.cell {W wr : World} {s : ByteArray} {k : Nat} (h : LowAt W s k wr) (hlt : k < s.size) : wr.cell? ⟨W.heap.size, k, none⟩ = some (.int .u8 (s[k].toNat : Int)) := by
  have hl : k < s.data.toList.length := by rw [size_len]; exact hlt
  rw [h.1.cell (j := k) (by rw [mix_length]; exact hl), mix_get hl, get_data hlt]
theorem LowAt.frozen {W wr : World} {s : ByteArray} {k : Nat} (h : LowAt W s k wr) (hlt : k < s.size) : wr.frozen? ⟨W.heap.size, k, none⟩ = false :=
  h.1.frozen (by rw [mix_length, size_len]; exact hlt)
theorem LowAt.keep {W wr : World} {s : ByteArray} {k : Nat} (h : LowAt W s k wr) (hlt : k < s.size) (hn : ¬ ((65 : Int) ≤ (s[k].toNat : Int) ∧ (s[k].toNat : Int) ≤ 90)) : LowAt W s (k + 1) wr := by
  have hl : k < s.data.toList.length := by rw [size_len]; exact hlt
  refine ⟨?_, h.2⟩
  rw [mix_keep hl (by rw [get_data hlt, Lib.isUpperB_int]; simp; omega)]
  exact h.1
theorem LowAt.turn {W wr : World} {s : ByteArray} {k : Nat} (h : LowAt W s k wr) (hlt : k < s.size) (hy : (65 : Int) ≤ (s[k].toNat : Int) ∧ (s[k].toNat : Int) ≤ 90) : LowAt W s (k + 1) (wr.setCell ⟨W.heap.size, k, none⟩ (.int .u8 ((s[k].toNat : Int) + 32))) := by
  have hl : k < s.data.toList.length := by rw [size_len]; exact hlt
  have e : Lib.isUpperB s[k] = true := by rw [Lib.isUpperB_int]; simp; omega
  have hs := h.1.set (j := k) (by rw [mix_length]; exact hl) (Lib.lowerB s[k])
  rw [Lib.lowerB_int _ e] at hs
  refine ⟨?_, h.2.setCell (Nat.le_refl _) _⟩
  rw [mix_succ hl, get_data hlt]
  exact hs
theorem LowAt.done {W wr : World} {s : ByteArray} {k : Nat} (h : LowAt W s k wr) (hge : ¬ k < s.size) (cap : Nat) :
    (convert 37 9 (.slice (some ⟨W.heap.size, 0, none⟩) s.size cap)).run Tryd.prog wr = .ok (.string ⟨(Lib.toLowerA s.data.toList).toArray⟩) wr := by
  have hlen : (Lib.toLowerA s.data.toList).length = s.size := by simp only [Lib.toLowerA, List.length_map]; exact size_len s
  have hm : mix s.data.toList k = Lib.toLowerA s.data.toList := mix_all (by rw [size_len]; omega)
  rw [← hlen]
  refine run_convert_bytes_back wr 37 9 5 _ cap _ Tryd.underlying37 Tryd.underlying5 Tryd.underlying9 fun j hj => ?_
  have hb := h.1
  rw [hm] at hb
  rw [Addr.add_lit, Nat.zero_add]
  exact hb.cell hj

set_option maxHeartbeats 400000 in
theorem lower_any (s : ByteArray) (w : World) (hs : s.size ≤ 140737488355328) :
    Calls Tryd.prog 10 #[.string s] w fun e w' => e = .returned (.string ⟨(Lib.toLowerA s.data.toList).toArray⟩) ∧ Below w.heap.size w w' := by
  have hcv := run_bytes_of_string (P := Tryd.prog) w 9 37 5 s Tryd.underlying9 Tryd.underlying37 Tryd.underlying5
  generalize hcap : grownCap w s.size 0 5 = cap at hcv
  have hB := BRow.made w s cap
  have hbel : Below w.heap.size w (w.drew.alloc (.cells (bytesRow s cap) 5 ((bytesRow s cap).size, (bytesRow s cap).size + 1))) := (Below.refl _ _).drew.alloc (Nat.le_refl _) _
  clear hcap
  generalize hw1 : w.drew.alloc (.cells (bytesRow s cap) 5 ((bytesRow s cap).size, (bytesRow s cap).size + 1)) = w1 at hcv hB hbel
  clear hw1
  have H0 : LowAt w s 0 w1 := ⟨by rw [mix_zero]; exact hB, hbel⟩
  clear hB hbel
  go_enter Tryd.func10, Tryd.ntmps10
  go_wp2
  go_loopw [4, 5, 10] (fun _ _ i wr => ∃ k : Nat, k ≤ s.size ∧ i = .int .i64 k ∧ LowAt w s k wr) (fun _ _ i _ => s.size - (intOf i).toNat)
  case atStart => exact ⟨0, Nat.zero_le _, rfl, H0⟩
  case round =>
    obtain ⟨k, hk, rfl, hlow⟩ := hrel
    by_cases hlt : k < s.size
    · have hc := hlow.cell hlt
      have hf := hlow.frozen hlt
      by_cases hup : (65 : Int) ≤ (s[k].toNat : Int) ∧ (s[k].toNat : Int) ≤ 90
      · have HL := Lib.hid (hlow.turn hlt hup)
        obtain ⟨h1, h2⟩ := hup
        clear hlow
        go_wp2
        go_roundw
        case rel => exact ⟨k + 1, by omega, by go_num, HL.out⟩
        case measure => simp [intOf]; omega
      · have HL := Lib.hid (hlow.keep hlt hup)
        clear hlow
        by_cases h1 : (65 : Int) ≤ (s[k].toNat : Int)
        · have h2 : (90 : Int) < (s[k].toNat : Int) := by omega
          clear hup
          go_wp2
          go_roundw
          case rel => exact ⟨k + 1, by omega, by go_num, HL.out⟩
          case measure => simp [intOf]; omega
        · have h2 : (s[k].toNat : Int) < 65 := by omega
          clear hup h1
          go_wp2
          go_roundw
          case rel => exact ⟨k + 1, by omega, by go_num, HL.out⟩
          case measure => simp [intOf]; omega
    · have hd := hlow.done hlt cap
      have HB := Lib.hid hlow.2
      clear hlow
      go_wp2
      go_ret
      exact ⟨rfl, HB.out⟩
end Go.Proofs.YtooajjeikfmieaaDoor
