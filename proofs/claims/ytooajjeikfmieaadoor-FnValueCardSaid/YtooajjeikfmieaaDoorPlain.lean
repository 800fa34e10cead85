/-
  What is proved here: the plain laws of taking duplicates out of a list, over any type of items with a key and a mark 'bad': idempotent, compatible with appending, a sublist that keeps the last item, and one item a key. No program in sight. Conditions: none but those each lemma names.
-/
namespace Go.Proofs.YtooajjeikfmieaaDoor.Plain

section
variable {α κ : Type} [DecidableEq κ]

/-- some item of r that is not bad has the key k -/
def seen (key : α → Option κ) (bad : α → Bool) (k : κ) (r : List α) : Bool := r.any fun x => !bad x && decide (key x = some k)

/-- is s dropped, given what stands behind it? -/
def drops (key : α → Option κ) (bad : α → Bool) (s : α) (r : List α) : Bool :=
  bad s || match key s with
    | none => false
    | some k => seen key bad k r

/-- an item stays unless it is bad or a later good one has its key -/
def ded (key : α → Option κ) (bad : α → Bool) : List α → List α
  | [] => []
  | s :: r => if drops key bad s r = true then ded key bad r else s :: ded key bad r

variable {key : α → Option κ} {bad : α → Bool}

theorem seen_iff {k : κ} {r : List α} : seen key bad k r = true ↔ ∃ x ∈ r, bad x = false ∧ key x = some k := by
  simp [seen, List.any_eq_true]

theorem seen_append (k : κ) (r t : List α) : seen key bad k (r ++ t) = (seen key bad k r || seen key bad k t) := by
  simp [seen]

theorem ded_sublist : ∀ l : List α, (ded key bad l).Sublist l
  | [] => List.Sublist.slnil
  | s :: r => by
    unfold ded
    split
    · exact (ded_sublist r).cons s
    · exact (ded_sublist r).cons_cons s

theorem ded_mem {x : α} {l : List α} (h : x ∈ ded key bad l) : x ∈ l := (ded_sublist l).subset h

theorem ded_length (l : List α) : (ded key bad l).length ≤ l.length := (ded_sublist l).length_le

theorem ded_good {x : α} {l : List α} (h : x ∈ ded key bad l) : bad x = false := by
  induction l with
  | nil => simp [ded] at h
  | cons s r ih =>
    unfold ded at h
    split at h
    · exact ih h
    · rename_i hd
      rcases List.mem_cons.1 h with rfl | h
      · cases hb : bad x with
        | false => rfl
        | true => exact absurd (by simp [drops, hb]) hd
      · exact ih h

/-- the good keys of what is left are those of what came in -/
theorem seen_ded (k : κ) (l : List α) : seen key bad k (ded key bad l) = seen key bad k l := by
  induction l with
  | nil => rfl
  | cons s r ih =>
    unfold ded
    split
    · rename_i hd
      rw [ih]
      rw [show seen key bad k (s :: r) = ((!bad s && decide (key s = some k)) || seen key bad k r) from by simp [seen]]
      cases hb : bad s with
      | true => simp
      | false =>
        simp only [drops, hb, Bool.false_or] at hd
        cases hk : key s with
        | none => simp
        | some k' =>
          rw [hk] at hd
          by_cases e : k' = k
          · subst e
            simp only at hd
            simp [hd]
          · simp [e]
    · rw [show ∀ t : List α, seen key bad k (s :: t) = ((!bad s && decide (key s = some k)) || seen key bad k t) from fun t => by simp [seen], ih]
      simp [seen]

theorem drops_ded (s : α) (r : List α) : drops key bad s (ded key bad r) = drops key bad s r := by
  unfold drops
  cases key s with
  | none => rfl
  | some k => simp only [seen_ded]

theorem drops_append_ded (s : α) (r t : List α) : drops key bad s (ded key bad r ++ t) = drops key bad s (r ++ t) := by
  unfold drops
  cases key s with
  | none => rfl
  | some k => simp only [seen_append, seen_ded]

theorem drops_mono {s : α} {r : List α} (t : List α) (h : drops key bad s r = true) : drops key bad s (r ++ t) = true := by
  unfold drops at h ⊢
  cases hb : bad s with
  | true => simp
  | false =>
    rw [hb] at h
    cases hk : key s with
    | none => rw [hk] at h; simp at h
    | some k =>
      rw [hk] at h
      simp only [Bool.false_or] at h ⊢
      rw [seen_append, h, Bool.true_or]

theorem ded_ded (l : List α) : ded key bad (ded key bad l) = ded key bad l := by
  induction l with
  | nil => rfl
  | cons s r ih =>
    by_cases h : drops key bad s r = true
    · rw [show ded key bad (s :: r) = ded key bad r by simp [ded, h]]; exact ih
    · rw [show ded key bad (s :: r) = s :: ded key bad r by simp [ded, h]]
      rw [ded, drops_ded, if_neg h, ih]

/-- items behind: the same whether the duplicates ahead of them have been taken out or not -/
theorem ded_append (l t : List α) : ded key bad (ded key bad l ++ t) = ded key bad (l ++ t) := by
  induction l with
  | nil => rfl
  | cons s r ih =>
    by_cases h : drops key bad s r = true
    · rw [show ded key bad (s :: r) = ded key bad r by simp [ded, h], ih, List.cons_append, ded, if_pos (drops_mono t h)]
    · rw [show ded key bad (s :: r) = s :: ded key bad r by simp [ded, h], List.cons_append, List.cons_append, ded, ded, drops_append_ded, ih]

/-- the last item is kept if it is good -/
theorem ded_last {l : List α} {x : α} (h : l.getLast? = some x) (hb : bad x = false) : (ded key bad l).getLast? = some x := by
  induction l with
  | nil => simp at h
  | cons s r ih =>
    cases r with
    | nil =>
      simp at h
      subst h
      have : drops key bad s [] = false := by
        unfold drops
        rw [hb]
        cases key s <;> simp [seen]
      simp [ded, this]
    | cons y q =>
      have h' : (y :: q).getLast? = some x := by simpa using h
      have i := ih h'
      rw [ded]
      split
      · exact i
      · cases hd : ded key bad (y :: q) with
        | nil => rw [hd] at i; simp at i
        | cons z p => rw [hd] at i; simpa using i

/-- of the items with the key k the last good one alone is left -/
theorem ded_filter (k : κ) (l : List α) : (ded key bad l).filter (fun x => decide (key x = some k)) = ((l.filter (fun x => !bad x && decide (key x = some k))).getLast?).toList := by
  induction l with
  | nil => rfl
  | cons s r ih =>
    have hs : seen key bad k r = true ↔ (r.filter (fun x => !bad x && decide (key x = some k))) ≠ [] := by
      rw [seen_iff]
      constructor
      · rintro ⟨x, hx, hb, hk⟩ e
        have : x ∈ r.filter (fun x => !bad x && decide (key x = some k)) := List.mem_filter.2 ⟨hx, by simp [hb, hk]⟩
        rw [e] at this
        simp at this
      · intro e
        obtain ⟨x, hx⟩ := List.exists_mem_of_ne_nil _ e
        obtain ⟨h1, h2⟩ := List.mem_filter.1 hx
        simp at h2
        exact ⟨x, h1, h2.1, h2.2⟩
    by_cases hg : (!bad s && decide (key s = some k)) = true
    · obtain ⟨hb, hk⟩ : bad s = false ∧ key s = some k := by simpa using hg
      rw [show (s :: r).filter (fun x => !bad x && decide (key x = some k)) = s :: r.filter (fun x => !bad x && decide (key x = some k)) from List.filter_cons_of_pos (p := fun x => !bad x && decide (key x = some k)) hg]
      by_cases hr : seen key bad k r = true
      · have hd : drops key bad s r = true := by simp [drops, hb, hk, hr]
        rw [ded, if_pos hd, ih]
        cases hf : r.filter (fun x => !bad x && decide (key x = some k)) with
        | nil => exact absurd hf (hs.1 hr)
        | cons y q => simp
      · have hd : ¬ drops key bad s r = true := by simp [drops, hb, hk, hr]
        have he : r.filter (fun x => !bad x && decide (key x = some k)) = [] := by
          refine Classical.byContradiction fun e => hr (hs.2 e)
        rw [ded, if_neg hd, List.filter_cons_of_pos (by simp [hk]), ih, he]
        rfl
    · rw [show (s :: r).filter (fun x => !bad x && decide (key x = some k)) = r.filter (fun x => !bad x && decide (key x = some k)) from List.filter_cons_of_neg (p := fun x => !bad x && decide (key x = some k)) hg]
      by_cases hd : drops key bad s r = true
      · rw [ded, if_pos hd, ih]
      · rw [ded, if_neg hd]
        have hb : bad s = false := by
          cases h : bad s with
          | false => rfl
          | true => exact absurd (by simp [drops, h]) hd
        have hk : ¬ key s = some k := by simpa [hb] using hg
        rw [List.filter_cons_of_neg (by simpa using hk), ih]

end

/-- part stands in all in this order, asked greedily -/
def within {α : Type} [DecidableEq α] : List α → List α → Bool
  | part, [] => part.isEmpty
  | part, s :: all => if part.head? = some s then within part.tail all else within part all

theorem within_nil {α : Type} [DecidableEq α] (all : List α) : within [] all = true := by
  induction all with
  | nil => rfl
  | cons s r ih => simp [within, ih]

theorem within_of_sublist {α : Type} [DecidableEq α] {part all : List α} (h : part.Sublist all) : within part all = true := by
  induction all generalizing part with
  | nil => cases h; rfl
  | cons s r ih =>
    unfold within
    cases part with
    | nil => simp [within_nil]
    | cons p q =>
      by_cases e : p = s
      · subst e
        simp only [List.head?_cons, if_true, List.tail_cons]
        cases h with
        | cons _ h => exact ih ((List.sublist_cons_self p q).trans h)
        | cons_cons _ h => exact ih h
      · simp only [List.head?_cons, Option.some.injEq, e, if_false]
        cases h with
        | cons _ h => exact ih h
        | cons_cons _ h => exact absurd rfl e

end Go.Proofs.YtooajjeikfmieaaDoor.Plain
