/-
  What is proved here: the relations of dedupEnvCase's two loops and what each way of a round does to them; no program is walked. Conditions: those that each lemma names.
-/
import Derived.Test.YtooajjeikfmieaaDoorSaw
import Derived.Test.YtooajjeikfmieaaDoorWell
namespace Go.Proofs.YtooajjeikfmieaaDoor
open Go.RowKit

/-- the error: nil, or one that errors.New has made -/
def ErrV (b : Bool) (v : Value) : Prop := (b = false → v = .nilIface) ∧ (b = true → ∃ p, v = .iface 47 (.pointer (some p)))

theorem seen_clash (fold nul : Bool) (x : ByteArray) (r : List ByteArray) (h : hasK x = true) : Plain.seen (keyO fold) (badB nul) (keyS fold x).data.toList r = r.any (clash fold nul x) := by
  simp only [Plain.seen, ← clash_eq fold nul x _ h]

/-- the keys that the map holds are the good items' -/
def KeysAt (fold nul : Bool) (r : List ByteArray) (ks : List (List UInt8)) : Prop := ∀ q, q ∈ ks ↔ Plain.seen (keyO fold) (badB nul) q r = true

theorem seen_cons (fold nul : Bool) (q : List UInt8) (x : ByteArray) (r : List ByteArray) : Plain.seen (keyO fold) (badB nul) q (x :: r) = ((!badB nul x && decide (keyO fold x = some q)) || Plain.seen (keyO fold) (badB nul) q r) := by
  simp [Plain.seen]
theorem KeysAt.bad {fold nul : Bool} {x : ByteArray} {r : List ByteArray} {ks : List (List UInt8)} (h : KeysAt fold nul r ks) (hb : badB nul x = true) : KeysAt fold nul (x :: r) ks := fun q => by
  rw [seen_cons, hb]
  simpa using h q
theorem KeysAt.none {fold nul : Bool} {x : ByteArray} {r : List ByteArray} {ks : List (List UInt8)} (h : KeysAt fold nul r ks) (hb : hasK x = false) : KeysAt fold nul (x :: r) ks := fun q => by
  rw [seen_cons, keyO_no hb]
  simpa using h q
theorem KeysAt.old {fold nul : Bool} {x : ByteArray} {r : List ByteArray} {ks : List (List UInt8)} (h : KeysAt fold nul r ks) (hk : hasK x = true) (hs : (keyS fold x).data.toList ∈ ks) : KeysAt fold nul (x :: r) ks := fun q => by
  rw [seen_cons, keyO_yes hk]
  by_cases e : (keyS fold x).data.toList = q
  · subst e
    simp [hs, (h _).1 hs]
  · simpa [e] using h q
theorem KeysAt.new {fold nul : Bool} {x : ByteArray} {r : List ByteArray} {ks : List (List UInt8)} (h : KeysAt fold nul r ks) (hb : badB nul x = false) (hk : hasK x = true) : KeysAt fold nul (x :: r) (ks ++ [(keyS fold x).data.toList]) := fun q => by
  rw [seen_cons, keyO_yes hk, hb]
  by_cases e : (keyS fold x).data.toList = q
  · subst e
    simp
  · have e' : ¬ q = (keyS fold x).data.toList := fun h => e h.symm
    simp [e, e', h q]
theorem KeysAt.mem {fold nul : Bool} {x : ByteArray} {r : List ByteArray} {ks : List (List UInt8)} (h : KeysAt fold nul r ks) (hk : hasK x = true) : decide ((keyS fold x).data.toList ∈ ks) = r.any (clash fold nul x) := by
  rw [← seen_clash fold nul x r hk, Bool.eq_iff_iff, decide_eq_true_eq]
  exact h _

theorem drop_pred {xs : List ByteArray} {k : Nat} {x : ByteArray} (hk : 0 < k) (hx : xs[k - 1]? = some x) : xs.drop (k - 1) = x :: xs.drop k := by
  obtain ⟨h1, e1⟩ := List.getElem?_eq_some_iff.1 hx
  rw [List.drop_eq_getElem_cons h1, e1, Nat.sub_add_cancel hk]

/-- the first loop's relation: the items from k on have been looked at; M: the map's block -/
structure CaseAt (W : World) (fold nul : Bool) (xs : List ByteArray) (M k : Nat) (ve : Value) (D : List ByteArray) (c : Nat) (ks : List (List UInt8)) (wr : World) : Prop where
  ded : D = (dedS fold nul (xs.drop k)).reverse
  own : wr.ownsRow W.heap.size 9 1 (.slice (some ⟨W.heap.size, 0, none⟩) D.length xs.length) D.length (D.map Value.string)
  saw : Saw wr M c ks
  few : c + k ≤ xs.length
  keys : KeysAt fold nul (xs.drop k) ks
  err : ErrV ((xs.drop k).any (badB nul)) ve
  bel : Below W.heap.size W wr
  mlt : W.heap.size < M

theorem own_ne {W : World} {M : Nat} {D : List ByteArray} {n : Nat} (h : W.heap.size < M) : (Value.slice (some ⟨W.heap.size, 0, none⟩) D.length n).ownBlock = none ∨ (Value.slice (some ⟨W.heap.size, 0, none⟩) D.length n).ownBlock ≠ some M := by
  right
  simp [Value.ownBlock]
  omega

/-- the world has moved on by a call -/
theorem CaseAt.kept {W wr w1 : World} {fold nul : Bool} {xs : List ByteArray} {M k : Nat} {ve : Value} {D : List ByteArray} {c : Nat} {ks : List (List UInt8)} (h : CaseAt W fold nul xs M k ve D c ks wr) (hb : Below wr.heap.size wr w1) : CaseAt W fold nul xs M k ve D c ks w1 :=
  ⟨h.ded, h.own.kept (grown_of_below hb) (by simp [Value.ownBlock]), h.saw.kept (grown_of_below hb) (by simp), h.few, h.keys, h.err, h.bel.trans (hb.mono h.bel.size), h.mlt⟩

theorem CaseAt.length {W wr : World} {fold nul : Bool} {xs : List ByteArray} {M k : Nat} {ve : Value} {D : List ByteArray} {c : Nat} {ks : List (List UInt8)} (h : CaseAt W fold nul xs M k ve D c ks wr) : D.length + k ≤ xs.length := by
  rw [h.ded, List.length_reverse]
  have h1 := Plain.ded_length (key := keyO fold) (bad := badB nul) (xs.drop k)
  have h2 := h.few
  simp at h1
  unfold dedS
  omega

theorem CaseAt.bad {W wr : World} {fold nul : Bool} {xs : List ByteArray} {M k : Nat} {ve ve' : Value} {D : List ByteArray} {c : Nat} {ks : List (List UInt8)} {x : ByteArray} (h : CaseAt W fold nul xs M k ve D c ks wr) (hk : 0 < k) (hx : xs[k - 1]? = some x) (hb : badB nul x = true)
    (he : ∃ p, ve' = .iface 47 (.pointer (some p))) : CaseAt W fold nul xs M (k - 1) ve' D c ks wr := by
  have hd := drop_pred hk hx
  refine ⟨?_, h.own, h.saw, by have := h.few; omega, by rw [hd]; exact h.keys.bad hb, ?_, h.bel, h.mlt⟩
  · have := dedS_bad (fold := fold) hx hb
    rw [Nat.sub_add_cancel hk] at this
    rw [this]
    exact h.ded
  · rw [hd, List.any_cons, hb]
    exact ⟨fun h => (by simp at h), fun _ => he⟩

theorem ErrV.good {nul : Bool} {x : ByteArray} {r : List ByteArray} {ve : Value} (h : ErrV (r.any (badB nul)) ve) (hb : badB nul x = false) : ErrV ((x :: r).any (badB nul)) ve := by
  rw [List.any_cons, hb, Bool.false_or]
  exact h

theorem CaseAt.old {W wr : World} {fold nul : Bool} {xs : List ByteArray} {M k : Nat} {ve : Value} {D : List ByteArray} {c : Nat} {ks : List (List UInt8)} {x : ByteArray} (h : CaseAt W fold nul xs M k ve D c ks wr) (hk : 0 < k) (hx : xs[k - 1]? = some x) (hb : badB nul x = false)
    (hK : hasK x = true) (hm : decide ((keyS fold x).data.toList ∈ ks) = true) : CaseAt W fold nul xs M (k - 1) ve D c ks wr := by
  have hd := drop_pred hk hx
  refine ⟨?_, h.own, h.saw, by have := h.few; omega, by rw [hd]; exact h.keys.old hK (of_decide_eq_true hm), by rw [hd]; exact h.err.good hb, h.bel, h.mlt⟩
  have hl : (xs.drop (k - 1 + 1)).any (clash fold nul x) = true := by rw [Nat.sub_add_cancel hk, ← h.keys.mem hK]; exact hm
  have := dedS_later (fold := fold) hx hb hl
  rw [Nat.sub_add_cancel hk] at this
  rw [this]
  exact h.ded

theorem ded_push {fold nul : Bool} {xs : List ByteArray} {k : Nat} {D : List ByteArray} {x : ByteArray} (h : D = (dedS fold nul (xs.drop k)).reverse) (hk : 0 < k) (hx : xs[k - 1]? = some x) (hb : badB nul x = false) (hl : (xs.drop k).any (clash fold nul x) = false) :
    D ++ [x] = (dedS fold nul (xs.drop (k - 1))).reverse := by
  have := dedS_keep (fold := fold) hx hb (by rw [Nat.sub_add_cancel hk]; exact hl)
  rw [Nat.sub_add_cancel hk] at this
  rw [this, h]
  simp

/-- an item without a key has been appended -/
theorem CaseAt.plain {W wr w2 : World} {fold nul : Bool} {xs : List ByteArray} {M k : Nat} {ve : Value} {D : List ByteArray} {c : Nat} {ks : List (List UInt8)} {x : ByteArray} {ob : Obj} (h : CaseAt W fold nul xs M k ve D c ks wr) (hk : 0 < k) (hx : xs[k - 1]? = some x) (hb : badB nul x = false)
    (hK : hasK x = false) (ho : w2.ownsRow W.heap.size 9 1 (.slice (some ⟨W.heap.size, 0, none⟩) (D.length + 1) xs.length) (D.length + 1) (D.map Value.string ++ [Value.string x])) (hg : (wr.alloc ob).grownBy w2 (some W.heap.size)) :
    CaseAt W fold nul xs M (k - 1) ve (D ++ [x]) c ks w2 := by
  have hd := drop_pred hk hx
  have hM := h.mlt
  refine ⟨ded_push h.ded hk hx hb (by simp [clash, hK]), by simpa using ho, (h.saw.kept (World.grownBy_alloc wr ob none) (by simp)).kept hg (by simp; omega), by have := h.few; omega, by rw [hd]; exact h.keys.none hK, by rw [hd]; exact h.err.good hb,
    (h.bel.alloc h.bel.size ob).grown hg (by have := h.bel.size; simp; omega) (fun j e => by cases e; exact Nat.le_refl _), h.mlt⟩

/-- an item with a key that is new has been put down and appended -/
theorem CaseAt.new {W wr w1 w2 : World} {fold nul : Bool} {xs : List ByteArray} {M k : Nat} {ve : Value} {D : List ByteArray} {c : Nat} {ks : List (List UInt8)} {x : ByteArray} {ob : Obj} (h : CaseAt W fold nul xs M k ve D c ks wr) (hk : 0 < k) (hx : xs[k - 1]? = some x) (hb : badB nul x = false)
    (hK : hasK x = true) (hm : decide ((keyS fold x).data.toList ∈ ks) = false) (hs : Saw w1 M (c + 1) (ks ++ [(keyS fold x).data.toList])) (hg1 : wr.grownBy w1 (some M))
    (ho : w2.ownsRow W.heap.size 9 1 (.slice (some ⟨W.heap.size, 0, none⟩) (D.length + 1) xs.length) (D.length + 1) (D.map Value.string ++ [Value.string x])) (hg : (w1.alloc ob).grownBy w2 (some W.heap.size)) :
    CaseAt W fold nul xs M (k - 1) ve (D ++ [x]) (c + 1) (ks ++ [(keyS fold x).data.toList]) w2 := by
  have hd := drop_pred hk hx
  have hM := h.mlt
  have hb1 : Below W.heap.size W w1 := h.bel.grown hg1 h.bel.size (fun j e => by cases e; omega)
  refine ⟨ded_push h.ded hk hx hb (by rw [← h.keys.mem hK]; exact hm), by simpa using ho, (hs.kept (World.grownBy_alloc w1 ob none) (by simp)).kept hg (by simp; omega), by have := h.few; omega, by rw [hd]; exact h.keys.new hb hK, by rw [hd]; exact h.err.good hb,
    (hb1.alloc hb1.size ob).grown hg (by have := hb1.size; simp; omega) (fun j e => by cases e; exact Nat.le_refl _), h.mlt⟩

/-- at the start -/
theorem CaseAt.start {w w1 : World} (fold nul : Bool) (xs : List ByteArray) (ho : w1.ownsRow w.heap.size 9 1 (.slice (some ⟨w.heap.size, 0, none⟩) 0 xs.length) 0 []) (hg : w.grownBy w1 none) :
    CaseAt w fold nul xs w1.heap.size xs.length .nilIface [] 0 [] (w1.alloc (.map #[] 0)) := by
  have hlt : w.heap.size < w1.heap.size := (World.ownsRow.lt ho w.heap.size rfl).2
  refine ⟨by rw [List.drop_eq_nil_of_le (Nat.le_refl _)]; rfl, World.ownsRow.alloc ho _, Saw.made w1, by omega, fun q => ?_, ?_, ((Below.refl _ _).grown hg (Nat.le_refl _) (fun j e => by cases e)).alloc (Nat.le_of_lt hlt) _, hlt⟩
  · rw [List.drop_eq_nil_of_le (Nat.le_refl _)]
    simp [Plain.seen]
  · rw [List.drop_eq_nil_of_le (Nat.le_refl _)]
    exact ⟨fun _ => rfl, fun h => by simp at h⟩
end Go.Proofs.YtooajjeikfmieaaDoor
