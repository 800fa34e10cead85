/-
  What is proved here: the tied card of the law FnValue: for every input that can be read the law returns true and each argument reads afterwards as it read before. Conditions: the package variables that the row lists start as the program's text lays them (the given tie).
-/
import Derived.Test.YtooajjeikfmieaaDoorVal
import Derived.Test.YtooajjeikfmieaaDoorArgs
namespace Go.Proofs.YtooajjeikfmieaaDoor
open Go.RowKit Go.ChangeShapes Go.WideShapes Go.ChangeAt

set_option maxRecDepth 100000 in
theorem value_lifted (os : Os) (started : os.Started) (H : Type) (enc : TypeId × Value → H) :
    ReturnsInHanded {} Go.Proofs.Tryd.checked os 3 .any (fun w args => (Rows.fnValueSpec.pre enc Go.Proofs.Tryd.prog Go.Proofs.Tryd.f3 [] false w args ∧ laidMetH Go.Proofs.Tryd.prog Rows.fnValueRow.laid w) ∧ sizedMet enc Go.Proofs.Tryd.prog Go.Proofs.Tryd.f3 (OpenSpec.ofChange Rows.fnValueSpec) false w args)
      (Rows.fnValueSpec.post enc Go.Proofs.Tryd.prog Go.Proofs.Tryd.f3 false true false false) := by
  refine returnsInHanded_of_change_and (C := Go.Proofs.Tryd.checked) (X := fun w _ => laidMetH Go.Proofs.Tryd.prog Rows.fnValueRow.laid w) (fun _ _ _ hh h => h.of_heap hh) own started (by kernel_rfl) Tryd.func3
    (ChangeSpec.witness_shaped (enc := enc) (C := Go.Proofs.Tryd.checked) (os := os) (X := fun w _ => laidMetH Go.Proofs.Tryd.prog Rows.fnValueRow.laid w) false (World.laidAll Go.Proofs.Tryd.prog os Rows.fnValueRow.laid) #[.bool false, .slice none 0 0, .string ⟨#[]⟩] 8 (World.laidAll_os _ _ _)
      (World.shaped_of_ZipB (by kernel_rfl) (by kernel_rfl)) (by kernel_rfl) (by kernel_rfl) (by kernel_rfl)
      (by rw [MakeChecks.laidMetH_plain _ _ _ (by kernel_rfl)]; exact laidMet_laidAll _ (by kernel_rfl) (by kernel_rfl))) ?_
  intro W base args ds gs before hval0 hW _ hsz0 _ _
  have hval : ∀ (j : Nat) t v, Go.Proofs.Tryd.f3.params[j]? = some t → args[j]? = some v → Value.okWide Go.Proofs.Tryd.prog W .any base t v := hval0
  have hsz : (DataW.weightsEach Go.Proofs.Tryd.prog (Go.Proofs.Tryd.f3.params.toList ++ Rows.fnValueSpec.plain.varTypes Go.Proofs.Tryd.prog) (ds ++ gs)).all (· ≤ reachBytes) = true := hsz0
  clear hsz0
  have hW' := hW
  obtain ⟨p, q, hA0, hV, rfl, _, _⟩ := hW
  have hA : DataW.TrodAll enc Go.Proofs.Tryd.prog W 0 (fun _ => true) true Go.Proofs.Tryd.f3.params.toList args.toList ds p := hA0
  rw [Tryd.params3] at hA hval hsz
  obtain ⟨v0, v1, v2, d0, d1, d2, p0, p1, p2, rfl, rfl, rfl, h0, h1, h2⟩ := trodAll_three hA
  obtain ⟨rfl, rfl⟩ := trodVars_none hV
  obtain ⟨x0, rfl, rfl, rfl⟩ := open_bool Tryd.underlying4 (hval 0 4 v0 rfl rfl) h0
  obtain ⟨key, rfl, rfl, rfl, wkey⟩ := Go.ChangeMaps.open_string Tryd.underlying9 (hval 2 9 v2 rfl rfl) h2
  clear hA0 hval0
  simp only [List.append_nil, List.nil_append] at hW'
  have hlt : ∀ x ∈ p1, x.block < W.heap.size := fun x hx => by simpa using hW'.lt x hx
  obtain ⟨xs, hs, hn⟩ := strs_arg (hval 1 22 v1 rfl rfl) h1 hlt
  have hkey : key.size ≤ 140737488355328 := by
    have := sized_string hsz (j := 2) (t := 9) rfl rfl
    rw [size_len] at this
    simp only [reachBytes] at this
    omega
  refine (value_walk v1 xs key x0 W hn hkey hs).mono fun e W' ⟨he, hb⟩ => ?_
  subst he
  exact ⟨_, rfl, _, _, _, [], [] ++ (p1 ++ []), [], hW', trodAll_mk1 (shut_bool Tryd.underlying4 _), trodAll_mk3 (shut_bool Tryd.underlying4 _) (Below.trod laidOut (by kernel_rfl) (of_decide_eq_true (by kernel_rfl)) h1 hb hlt) (Go.ChangeMaps.shut_string Tryd.underlying9 wkey), rfl, hb.frame _, fun h => by cases h⟩

theorem value_said : Rows.FnValueSaid :=
  OpenClaim.holds_of_wide 3 Go.Proofs.Tryd.f3 rfl rfl rfl rfl rfl rfl rfl ⟨rfl, rfl, rfl, rfl, rfl⟩ rfl rfl rfl rfl rfl (by kernel_rfl) Tryd.func3 (by kernel_rfl)
    (of_decide_eq_true (by kernel_rfl)) (by unfold Func.isWrapper; first | (rw [if_pos (by decide +kernel)]; kernel_rfl) | (rw [if_neg (by decide +kernel)]; exact ⟨rfl, rfl⟩))
    (fun os started H enc _ => value_lifted os started H enc)

theorem value_card : Rows.FnValueCardSaid :=
  Claim7.holds_tied_plain_at .later [] _ _ _ _ value_said (fun _ h => by cases h) (by kernel_rfl) (fun _ h => by cases h) fnValue_row_tie rfl ⟨rfl, rfl⟩ (by kernel_rfl) rfl
    (fun f fn hf hfn => by
      obtain rfl : f = 3 := Option.some.inj ((show Go.Proofs.Tryd.prog.funcNamed Rows.fnValueRow.func = some 3 by kernel_rfl).symm.trans hf) |>.symm
      obtain rfl : fn = Go.Proofs.Tryd.f3 := (Option.some.inj (Tryd.func3.symm.trans hfn)).symm
      exact ⟨by kernel_rfl, fun j t ht => by
        rw [Tryd.params3] at ht
        have hm : t ∈ [4, 22, 9] := by simpa using Array.mem_of_getElem? ht
        have hall : ([4, 22, 9].all fun u => !Go.Proofs.Tryd.prog.wantsStandIn u) = true := by kernel_rfl
        exact (show Go.Proofs.Tryd.prog.wantsStandIn t = false by simpa using List.all_eq_true.1 hall t hm)⟩)
    (by kernel_rfl)
#print axioms value_card
end Go.Proofs.YtooajjeikfmieaaDoor
