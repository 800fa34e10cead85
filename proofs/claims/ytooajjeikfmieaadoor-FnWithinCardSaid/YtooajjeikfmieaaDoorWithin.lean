/-
  What is proved here: the contract of spec.Within: it returns whether the one list's texts stand among the other's in this order, asked greedily; the world stays. Conditions: lengths are ints.
-/
import Derived.Test.YtooajjeikfmieaaDoorFits
import Derived.Test.YtooajjeikfmieaaDoorPlain
namespace Go.Proofs.YtooajjeikfmieaaDoor
open Go.RowKit

theorem toList_inj {p x : ByteArray} : (p.toList == x.toList) = decide (p = x) := by
  rw [Bool.eq_iff_iff]
  simp only [beq_iff_eq, decide_eq_true_eq]
  constructor
  · intro h
    rw [Lib.toList_data, Lib.toList_data] at h
    have := Array.toList_inj.1 h
    cases p; cases x
    simp_all
  · rintro rfl
    rfl

theorem within_none {xs : List ByteArray} {k : Nat} {ps : List ByteArray} {m : Nat} (hm : ps.length ≤ m) : Plain.within (ps.drop m) (xs.drop k) = Plain.within (ps.drop m) (xs.drop (k + 1)) := by
  rw [List.drop_eq_nil_of_le hm, Plain.within_nil, Plain.within_nil]
theorem within_hit {xs : List ByteArray} {k : Nat} {x p : ByteArray} {ps : List ByteArray} {m : Nat} (hx : xs[k]? = some x) (hp : ps[m]? = some p) (h : (p.toList == x.toList) = true) : Plain.within (ps.drop m) (xs.drop k) = Plain.within (ps.drop (m + 1)) (xs.drop (k + 1)) := by
  obtain ⟨h1, e1⟩ := List.getElem?_eq_some_iff.1 hx
  obtain ⟨h2, e2⟩ := List.getElem?_eq_some_iff.1 hp
  rw [toList_inj, decide_eq_true_eq] at h
  rw [List.drop_eq_getElem_cons h1, List.drop_eq_getElem_cons h2, e1, e2, Plain.within, h]
  simp
theorem within_miss {xs : List ByteArray} {k : Nat} {x p : ByteArray} {ps : List ByteArray} {m : Nat} (hx : xs[k]? = some x) (hp : ps[m]? = some p) (h : (p.toList == x.toList) = false) : Plain.within (ps.drop m) (xs.drop k) = Plain.within (ps.drop m) (xs.drop (k + 1)) := by
  obtain ⟨h1, e1⟩ := List.getElem?_eq_some_iff.1 hx
  obtain ⟨h2, e2⟩ := List.getElem?_eq_some_iff.1 hp
  rw [toList_inj, decide_eq_false_iff_not] at h
  rw [List.drop_eq_getElem_cons h1, List.drop_eq_getElem_cons h2, e1, e2, Plain.within]
  simp [h]
theorem within_end {xs : List ByteArray} {k : Nat} {ps : List ByteArray} {m L : Nat} (hk : xs.length ≤ k) (hL : L + m = ps.length) : ((L : Int) == 0) = Plain.within (ps.drop m) (xs.drop k) := by
  rw [List.drop_eq_nil_of_le hk, Plain.within, Bool.eq_iff_iff]
  simp
  omega

set_option maxHeartbeats 400000 in
/-- nothing is looked for -/
theorem within_empty (a : Option Addr) (cap : Nat) (b2 o2 cap2 : Nat) (xs : List ByteArray) (w : World) (hn : xs.length ≤ 9223372036854775807) (hc : StrsAt w b2 o2 xs) :
    Calls Tryd.prog 16 #[.slice a 0 cap, .slice (some ⟨b2, o2, none⟩) xs.length cap2] w fun e w' => e = .returned (.bool true) ∧ w = w' := by
  go_enter Tryd.func16, Tryd.ntmps16
  go_wp2
  go_loop [0, 6, 9] (fun p _ i => ∃ k : Nat, k ≤ xs.length ∧ p = .slice a 0 cap ∧ i = .int .i64 k) (fun _ _ i => xs.length - (intOf i).toNat)
  case atStart => exact ⟨0, Nat.zero_le _, rfl, rfl⟩
  case round =>
    obtain ⟨k, hk, rfl, rfl⟩ := hrel
    by_cases hlt : k < xs.length
    · obtain ⟨x, hx⟩ := getElem?_of_lt hlt
      have hcell := hc k x hx
      clear hx
      go_wp2
      go_round
      case rel => exact ⟨k + 1, by omega, rfl, by go_num⟩
      case measure => simp [intOf]; omega
    · go_wp2
      go_ret
      exact ⟨rfl, rfl⟩

set_option maxHeartbeats 1000000 in
theorem within_at (b1 o1 cap1 b2 o2 cap2 : Nat) (ps xs : List ByteArray) (w : World) (hl : ps.length ≤ cap1) (hm : cap1 ≤ 9223372036854775807) (hn : xs.length ≤ 9223372036854775807) (hp : StrsAt w b1 o1 ps) (hc : StrsAt w b2 o2 xs) :
    Calls Tryd.prog 16 #[.slice (some ⟨b1, o1, none⟩) ps.length cap1, .slice (some ⟨b2, o2, none⟩) xs.length cap2] w fun e w' => e = .returned (.bool (Plain.within ps xs)) ∧ w = w' := by
  go_enter Tryd.func16, Tryd.ntmps16
  go_wp2
  go_loop [0, 6, 9] (fun p _ i => ∃ k m q L C : Nat, k ≤ xs.length ∧ i = .int .i64 k ∧ p = .slice (some ⟨b1, q, none⟩) L C ∧ L + m = ps.length ∧ L ≤ C ∧ C ≤ cap1 ∧ (0 < L → q = o1 + m) ∧ Plain.within ps xs = Plain.within (ps.drop m) (xs.drop k)) (fun _ _ i => xs.length - (intOf i).toNat)
  case atStart => exact ⟨0, 0, o1, ps.length, cap1, Nat.zero_le _, rfl, rfl, rfl, hl, Nat.le_refl _, fun _ => rfl, rfl⟩
  case round =>
    obtain ⟨k, m, q, L, C, hk, rfl, rfl, hLm, hLC, hC, hq, hw⟩ := hrel
    have HM := Lib.hid hLm
    have HQ := Lib.hid hq
    have HW := Lib.hid hw
    clear hLm hq hw
    by_cases hlt : k < xs.length
    · obtain ⟨x, hx⟩ := getElem?_of_lt hlt
      have hcell := hc k x hx
      have HX := Lib.hid hx
      clear hx
      by_cases hL : 0 < L
      · obtain ⟨p, hpm⟩ := getElem?_of_lt (xs := ps) (k := m) (by have := HM.out; omega)
        have hpc : w.cell? ⟨b1, q, none⟩ = some (.string p) := by rw [HQ.out hL]; exact hp m p hpm
        have HP := Lib.hid hpm
        clear hpm
        cases he : (p.toList == x.toList) with
        | true =>
          have HE := Lib.hid (HW.out.trans (within_hit HX.out HP.out he))
          by_cases h1 : C = 1
          · go_wp2
            go_round
            case rel => exact ⟨k + 1, m + 1, q, L - 1, 0, by omega, by go_num, rfl, by have := HM.out; omega, by omega, by omega, fun h => absurd h (by omega), HE.out⟩
            case measure => simp [intOf]; omega
          · go_wp2
            go_round
            case rel => exact ⟨k + 1, m + 1, q + 1, L - 1, C - 1, by omega, by go_num, rfl, by have := HM.out; omega, by omega, by omega, fun _ => by have := HQ.out hL; omega, HE.out⟩
            case measure => simp [intOf]; omega
        | false =>
          have HE := Lib.hid (HW.out.trans (within_miss HX.out HP.out he))
          go_wp2
          go_round
          case rel => exact ⟨k + 1, m, q, L, C, by omega, by go_num, rfl, HM.out, hLC, hC, HQ.out, HE.out⟩
          case measure => simp [intOf]; omega
      · have hL0 : L = 0 := by omega
        subst hL0
        have HE := Lib.hid (HW.out.trans (within_none (k := k) (xs := xs) (by have := HM.out; omega)))
        go_wp2
        go_round
        case rel => exact ⟨k + 1, m, q, 0, C, by omega, by go_num, rfl, HM.out, hLC, hC, HQ.out, HE.out⟩
        case measure => simp [intOf]; omega
    · go_wp2
      go_ret
      exact ⟨ret_bool ((within_end (by omega) HM.out).trans HW.out.symm), rfl⟩
theorem within_any (vp va : Value) (ps xs : List ByteArray) (w : World) (hn : xs.length ≤ 9223372036854775807) (hne : xs ≠ []) (hp : Strs w vp ps) (hv : Strs w va xs) :
    Calls Tryd.prog 16 #[vp, va] w fun e w' => e = .returned (.bool (Plain.within ps xs)) ∧ w = w' := by
  rcases hv with ⟨rfl, _⟩ | ⟨_, b2, o2, cap2, rfl, _, _, _, hc⟩
  · exact absurd rfl hne
  · rcases hp with ⟨rfl, a, cap, _, rfl⟩ | ⟨_, b1, o1, cap1, rfl, hl, hm, _, hp⟩
    · rw [Plain.within_nil]
      exact within_empty a cap b2 o2 cap2 xs w hn hc
    · exact within_at b1 o1 cap1 b2 o2 cap2 ps xs w hl hm hn hp hc
end Go.Proofs.YtooajjeikfmieaaDoor
