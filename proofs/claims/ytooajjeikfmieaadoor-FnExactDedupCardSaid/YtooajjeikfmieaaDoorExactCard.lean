/-
  What is proved here: the tied card of the law FnExactDedup: for every input that can be read the law returns true and each argument reads afterwards as it read before. Conditions: the package variables that the row lists start as the program's text lays them (the given tie).
-/
import Derived.Test.YtooajjeikfmieaaDoorExact
import Derived.Test.YtooajjeikfmieaaDoorArgs
namespace Go.Proofs.YtooajjeikfmieaaDoor
open Go.RowKit Go.ChangeShapes Go.WideShapes Go.ChangeAt

set_option maxRecDepth 100000 in
theorem exact_lifted (os : Os) (started : os.Started) (H : Type) (enc : TypeId × Value → H) :
    ReturnsInHanded {} Go.Proofs.Tryd.checked os 6 .any (fun w args => (Rows.fnExactDedupSpec.pre enc Go.Proofs.Tryd.prog Go.Proofs.Tryd.f6 [] false w args ∧ laidMetH Go.Proofs.Tryd.prog Rows.fnExactDedupRow.laid w) ∧ sizedMet enc Go.Proofs.Tryd.prog Go.Proofs.Tryd.f6 (OpenSpec.ofChange Rows.fnExactDedupSpec) false w args)
      (Rows.fnExactDedupSpec.post enc Go.Proofs.Tryd.prog Go.Proofs.Tryd.f6 false true false false) := by
  refine returnsInHanded_of_change_and (C := Go.Proofs.Tryd.checked) (X := fun w _ => laidMetH Go.Proofs.Tryd.prog Rows.fnExactDedupRow.laid w) (fun _ _ _ hh h => h.of_heap hh) own started (by kernel_rfl) Tryd.func6
    (ChangeSpec.witness_shaped (enc := enc) (C := Go.Proofs.Tryd.checked) (os := os) (X := fun w _ => laidMetH Go.Proofs.Tryd.prog Rows.fnExactDedupRow.laid w) false (World.laidAll Go.Proofs.Tryd.prog os Rows.fnExactDedupRow.laid) #[.bool false, .bool false, .slice none 0 0] 8 (World.laidAll_os _ _ _)
      (World.shaped_of_ZipB (by kernel_rfl) (by kernel_rfl)) (by kernel_rfl) (by kernel_rfl) (by kernel_rfl)
      (by rw [MakeChecks.laidMetH_plain _ _ _ (by kernel_rfl)]; exact laidMet_laidAll _ (by kernel_rfl) (by kernel_rfl))) ?_
  intro W base args ds gs before hval0 hW _ _ _ _
  have hval : ∀ (j : Nat) t v, Go.Proofs.Tryd.f6.params[j]? = some t → args[j]? = some v → Value.okWide Go.Proofs.Tryd.prog W .any base t v := hval0
  have hW' := hW
  obtain ⟨p, q, hA0, hV, rfl, _, _⟩ := hW
  have hA : DataW.TrodAll enc Go.Proofs.Tryd.prog W 0 (fun _ => true) true Go.Proofs.Tryd.f6.params.toList args.toList ds p := hA0
  rw [Tryd.params6] at hA hval
  obtain ⟨v0, v1, v2, d0, d1, d2, p0, p1, p2, rfl, rfl, rfl, h0, h1, h2⟩ := trodAll_three hA
  obtain ⟨rfl, rfl⟩ := trodVars_none hV
  obtain ⟨x0, rfl, rfl, rfl⟩ := open_bool Tryd.underlying4 (hval 0 4 v0 rfl rfl) h0
  obtain ⟨x1, rfl, rfl, rfl⟩ := open_bool Tryd.underlying4 (hval 1 4 v1 rfl rfl) h1
  clear hA0 hval0
  simp only [List.append_nil, List.nil_append] at hW'
  have hlt : ∀ x ∈ p2, x.block < W.heap.size := fun x hx => by simpa using hW'.lt x hx
  obtain ⟨xs, hs, hn⟩ := strs_arg (hval 2 22 v2 rfl rfl) h2 hlt
  refine (exact_walk v2 xs x0 x1 W hn hs).mono fun e W' ⟨he, hb⟩ => ?_
  subst he
  exact ⟨_, rfl, _, _, _, [], [] ++ ([] ++ p2), [], hW', trodAll_mk1 (shut_bool Tryd.underlying4 _), trodAll_mk3 (shut_bool Tryd.underlying4 _) (shut_bool Tryd.underlying4 _) (Below.trod laidOut (by kernel_rfl) (of_decide_eq_true (by kernel_rfl)) h2 hb hlt), rfl, hb.frame _, fun h => by cases h⟩

theorem exact_said : Rows.FnExactDedupSaid :=
  OpenClaim.holds_of_wide 6 Go.Proofs.Tryd.f6 rfl rfl rfl rfl rfl rfl rfl ⟨rfl, rfl, rfl, rfl, rfl⟩ rfl rfl rfl rfl rfl (by kernel_rfl) Tryd.func6 (by kernel_rfl)
    (of_decide_eq_true (by kernel_rfl)) (by unfold Func.isWrapper; first | (rw [if_pos (by decide +kernel)]; kernel_rfl) | (rw [if_neg (by decide +kernel)]; exact ⟨rfl, rfl⟩))
    (fun os started H enc _ => exact_lifted os started H enc)

theorem exact_card : Rows.FnExactDedupCardSaid :=
  Claim7.holds_tied_plain_at .later [] _ _ _ _ exact_said (fun _ h => by cases h) (by kernel_rfl) (fun _ h => by cases h) fnExactDedup_row_tie rfl ⟨rfl, rfl⟩ (by kernel_rfl) rfl
    (fun f fn hf hfn => by
      obtain rfl : f = 6 := Option.some.inj ((show Go.Proofs.Tryd.prog.funcNamed Rows.fnExactDedupRow.func = some 6 by kernel_rfl).symm.trans hf) |>.symm
      obtain rfl : fn = Go.Proofs.Tryd.f6 := (Option.some.inj (Tryd.func6.symm.trans hfn)).symm
      exact ⟨by kernel_rfl, fun j t ht => by
        rw [Tryd.params6] at ht
        have hm : t ∈ [4, 4, 22] := by simpa using Array.mem_of_getElem? ht
        have hall : ([4, 4, 22].all fun u => !Go.Proofs.Tryd.prog.wantsStandIn u) = true := by kernel_rfl
        exact (show Go.Proofs.Tryd.prog.wantsStandIn t = false by simpa using List.all_eq_true.1 hall t hm)⟩)
    (by kernel_rfl)
#print axioms exact_card
end Go.Proofs.YtooajjeikfmieaaDoor
