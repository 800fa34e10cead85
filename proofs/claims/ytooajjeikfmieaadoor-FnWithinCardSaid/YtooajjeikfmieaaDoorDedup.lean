/-
  What is proved here: the contracts of dedupEnvCase, DedupEnv and impl.Dedup: each returns the environment without duplicates in memory of its own, and whether an item with a byte of 0 is not allowed; below the heap's end the world is as it was. Conditions: at most 2^31 - 1 items of at most 2^31 - 1 bytes, each of the form that spec.Well asks.
-/
import Derived.Test.YtooajjeikfmieaaDoorCaseTT
import Derived.Test.YtooajjeikfmieaaDoorCaseTF
import Derived.Test.YtooajjeikfmieaaDoorCaseFT
import Derived.Test.YtooajjeikfmieaaDoorCaseFF
import Derived.Deep.RegionLaw
namespace Go.Proofs.YtooajjeikfmieaaDoor
open Go.RowKit

set_option maxHeartbeats 1000000 in
theorem case_empty (a : Option Addr) (cap : Nat) (fold nul : Bool) (w : World) :
    Calls Go.Proofs.Tryd.prog 21 #[.bool fold, .bool nul, .slice a 0 cap] w fun e w' => ∃ vo, e = .returned (.tuple #[vo, .nilIface]) ∧ Strs w' vo [] ∧ Below w.heap.size w w' := by
  obtain ⟨i0, hi, hz0, hz1, hz2⟩ := info_parts info9
  have hmm := run_makeSaw
  go_enter Tryd.func21, Tryd.ntmps21
  go_wp2_with (at_make; refine wpList_make_own _ rfl _ _ 22 rfl w.heap.size 9 i0 (.string ⟨#[]⟩) 1 Tryd.underlying22 hi hz0 hz1 _ _ _ 0 rfl rfl rfl (by rw [hz2]; omega) (by unfold maxLen; omega) (Nat.le_refl _) ?_; intro w1 hown hgrow)
  have HB := Lib.hid (((Below.refl _ _).grown hgrow (Nat.le_refl _) (fun j e => by cases e)).alloc (w := w1) hgrow.size (.map #[] 0))
  have HO := Lib.hid (Own.strs (D := []) (World.ownsRow.alloc hown (.map #[] 0)))
  clear hown hgrow hmm
  refine wp_loop_rounds 1 ?_
  rw [rounds_succ]
  go_wp2_with fail
  refine wp_loop_rounds 1 ?_
  rw [rounds_succ]
  go_wp2_with fail
  go_ret2
  exact ⟨_, rfl, HO.out, HB.out⟩

theorem case_any (v : Value) (xs : List ByteArray) (fold nul : Bool) (w : World) (hn : xs.length ≤ 2147483647) (hz : ∀ x ∈ xs, x.size ≤ 2147483647) (hok : ∀ x ∈ xs, okI fold x = true) (hv : Strs w v xs) :
    Calls Go.Proofs.Tryd.prog 21 #[.bool fold, .bool nul, v] w fun e w' => ∃ vo ve, e = .returned (.tuple #[vo, ve]) ∧ Strs w' vo (dedS fold nul xs) ∧ ErrV (xs.any (badB nul)) ve ∧ Below w.heap.size w w' := by
  rcases hv with ⟨rfl, a, cap, _, rfl⟩ | ⟨_, b, o, cap, rfl, _, _, hb, hc⟩
  · refine (case_empty a cap fold nul w).mono ?_
    rintro e w' ⟨vo, he, hs, hb⟩
    exact ⟨vo, _, he, hs, ⟨fun _ => rfl, fun h => by simp at h⟩, hb⟩
  · cases nul with
    | true => cases fold with
      | true => exact case_TT b o cap xs w hn hz hok hb hc
      | false => exact case_TF b o cap xs w hn hz hok hb hc
    | false => cases fold with
      | true => exact case_FT b o cap xs w hn hz hok hb hc
      | false => exact case_FF b o cap xs w hn hz hok hb hc

set_option maxHeartbeats 400000 in
theorem env_any (v : Value) (xs : List ByteArray) (fold nul : Bool) (w : World) (hn : xs.length ≤ 2147483647) (hz : ∀ x ∈ xs, x.size ≤ 2147483647) (hok : ∀ x ∈ xs, okI fold x = true) (hv : Strs w v xs) :
    Calls Go.Proofs.Tryd.prog 19 #[.bool fold, .bool nul, v] w fun e w' => ∃ vo ve, e = .returned (.tuple #[vo, ve]) ∧ Strs w' vo (dedS fold nul xs) ∧ ErrV (xs.any (badB nul)) ve ∧ Below w.heap.size w w' := by
  have C := Lib.hid (case_any v xs fold nul w hn hz hok hv)
  clear hn hz hok hv
  go_enter Tryd.func19, Tryd.ntmps19
  go_wp2_with fail
  refine C.out.mono ?_
  rintro e w' ⟨vo, ve, rfl, h1, h2, h3⟩
  have H := Lib.hid (And.intro h1 (And.intro h2 h3))
  clear h1 h2 h3
  go_wp2_with fail
  go_ret2
  exact ⟨vo, ve, rfl, H.out⟩

/-- 'append(a, b...)' for slices of strings, the first the call's own -/
theorem run_append_strs {w : World} {base : Nat} {ty : TypeId} {v vx : Value} {D xs : List ByteArray} (hown : Own base w v D) (hx : Strs w vx xs) (hsz : D.length + xs.length ≤ 8589934592) (hbase : base ≤ w.heap.size) :
    ∃ v' w', (Builtin.append_ #[22, 22] ty #[v, vx]).run Go.Proofs.Tryd.prog w = .ok v' w' ∧ Own base w' v' (D ++ xs) ∧ w.grownBy w' v.ownBlock := by
  obtain ⟨i0, hi, hz0, hz1, hz2⟩ := info_parts info9
  have one : ∀ (l : List ByteArray) u, u ∈ l.map Value.string → u.oneCell' = true := fun l u hu => by
    obtain ⟨y, _, rfl⟩ := List.mem_map.1 hu
    rfl
  have go : ∀ (ad : Addr) (c : Nat), (∀ (j : Nat) (u : Value), (xs.map Value.string)[j]? = some u → w.cell? (ad.add j) = some u) → ∃ v' w', (Builtin.append_ #[22, 22] ty #[v, .slice (some ad) xs.length c]).run Go.Proofs.Tryd.prog w = .ok v' w' ∧ Own base w' v' (D ++ xs) ∧ w.grownBy w' v.ownBlock := fun ad c hc => by
    obtain ⟨v', w', h1, h2, h3, _⟩ := run_append_own (P := Go.Proofs.Tryd.prog) w base 22 ty 9 i0 (.string ⟨#[]⟩) 1 16 Tryd.underlying22 hi hz0 hz1 hz2 rfl (by decide) v D.length _ hown ad xs.length c (xs.map Value.string) (by simp) hc (one xs) (by unfold maxLen; omega) (by omega) hbase
    exact ⟨v', w', h1, by simpa [Own] using h2, h3⟩
  rcases hx with ⟨rfl, a, cap, hcap, rfl⟩ | ⟨_, b, o, cap, rfl, _, _, _, hc⟩
  · cases a with
    | none =>
      obtain rfl := hcap rfl
      exact ⟨v, w, run_append_owned_none (P := Go.Proofs.Tryd.prog) w base 22 ty 9 i0 1 Tryd.underlying22 hi v D.length _ hown, by simpa using hown, World.grownBy.refl _ _⟩
    | some ad => exact go ad cap fun j u hu => by simp at hu
  · refine go ⟨b, o, none⟩ cap fun j u hu => ?_
    rw [Addr.add_lit]
    rw [List.getElem?_map] at hu
    cases hj : xs[j]? with
    | none => rw [hj] at hu; simp at hu
    | some y =>
      rw [hj] at hu
      simp at hu
      subst hu
      exact hc j y hj

theorem wpList_append_strs {w : World} {ops : Array Oper} {rest : List Oper} {o : Oper} {a : Act} {Q : Exit → Act → World → Prop} (hg : o.guard = none) (s x : Operand) (hop : o.op = Op.call { callee := Callee.builtin Builtin.append, args := #[s, x], argTypes := #[22, 22] })
    (base : Nat) (v vx : Value) (D xs : List ByteArray) (hs : a.eval s = v) (hown : Own base w v D) (hx : a.eval x = vx) (hxs : Strs w vx xs) (hsz : D.length + xs.length ≤ 8589934592) (hbase : base ≤ w.heap.size)
    (h : ∀ v' w', Own base w' v' (D ++ xs) → w.grownBy w' v.ownBlock → wpList Go.Proofs.Tryd.prog ops Q rest (a.put o.dst v') w') : wpList Go.Proofs.Tryd.prog ops Q (o :: rest) a w := by
  refine wpList_plain hg fun K hK => ?_
  obtain ⟨v', w', hrun, h1, h2⟩ := run_append_strs (ty := o.type) hown hxs hsz hbase
  unfold Oper.wp
  simp [execOp, hop, resolve, invoke, builtin, hs, hx, hrun, Result.andThen]
  exact hK _ _ (h v' w' h1 h2)

theorem step_append_strs {ops : Array Oper} {o : Oper} {a : Act} {w : World} {K : Act → World → Prop} {Q : Exit → Act → World → Prop} {E : Prop} (hg : o.guard = none) (s x : Operand) (hop : o.op = Op.call { callee := Callee.builtin Builtin.append, args := #[s, x], argTypes := #[22, 22] })
    (base : Nat) (v vx : Value) (D xs : List ByteArray) (hs : a.eval s = v) (hown : Own base w v D) (hx : a.eval x = vx) (hxs : Strs w vx xs) (hsz : D.length + xs.length ≤ 8589934592) (hbase : base ≤ w.heap.size)
    (hK : ∀ v' w', Own base w' v' (D ++ xs) → w.grownBy w' v.ownBlock → K (a.put o.dst v') w') :
    if Region.wanted o (yielded ops a.tmps) = true then Oper.wp Go.Proofs.Tryd.prog o a w K Q else E := by
  have hw : Region.wanted o (yielded ops a.tmps) = true := by simp [Region.wanted, hg]
  rw [if_pos hw]
  obtain ⟨v', w', hrun, h1, h2⟩ := run_append_strs (ty := o.type) hown hxs hsz hbase
  unfold Oper.wp
  simp [execOp, hop, resolve, invoke, builtin, hs, hx, hrun, Result.andThen]
  exact hK _ _ h1 h2

/-- the empty slice that is not nil -/
theorem own_lit (w : World) (base : Nat) (hb : base ≤ w.heap.size) : Own base (w.alloc (.cells #[] 9)) (.slice (some ⟨w.heap.size, 0, none⟩) 0 0) [] :=
  World.ownsRow_lit w #[] 0 hb (Nat.zero_le _) rfl

set_option maxHeartbeats 1000000 in
set_option maxRecDepth 100000 in
theorem dedup_any (v : Value) (xs : List ByteArray) (fold nul : Bool) (w : World) (hn : xs.length ≤ 2147483647) (hz : ∀ x ∈ xs, x.size ≤ 2147483647) (hok : ∀ x ∈ xs, okI fold x = true) (hv : Strs w v xs) :
    Calls Go.Proofs.Tryd.prog 12 #[.bool fold, .bool nul, v] w fun e w' => ∃ vo, e = .returned (.tuple #[vo, .bool (!xs.any (badB nul))]) ∧ Strs w' vo (dedS fold nul xs) ∧ Below w.heap.size w w' := by
  have HV := Lib.hid hv
  have C := Lib.hid (fun w1 v1 (h : Strs w1 v1 xs) => env_any v1 xs fold nul w1 hn hz hok h)
  clear hz hok hv
  have hlit := own_lit w w.heap.size (Nat.le_refl _)
  have HL := Lib.hid hlit
  have HV1 := Lib.hid (HV.out.below ((Below.refl _ _).alloc (Nat.le_refl _) (.cells #[] 9)))
  clear hlit
  go_enter Tryd.func12, Tryd.ntmps12
  go_wp2_with (at_builtin; refine wpList_append_strs rfl _ _ rfl w.heap.size _ v [] xs rfl HL.out rfl HV1.out (by simp; omega) (by simp) ?_; intro v1 w1 hown1 hgrow1)
  have hs1 : Strs w1 v1 xs := Own.strs hown1
  have hb1 : Below w.heap.size w w1 := ((Below.refl _ _).alloc (Nat.le_refl _) (.cells #[] 9)).grown hgrow1 (by simp) (fun j e => by cases e; exact Nat.le_refl _)
  have C1 := C.out w1 v1 hs1
  have HB1 := Lib.hid hb1
  clear hown1 hgrow1 hs1 hb1
  refine C1.mono ?_
  rintro e w2 ⟨vo, ve, rfl, h1, h2, h3⟩
  have HS2 := Lib.hid h1
  have HB2 := Lib.hid (HB1.out.trans (h3.mono HB1.out.size))
  have HD := Lib.hid (show (dedS fold nul xs).length ≤ xs.length from Plain.ded_length xs)
  clear C1 h1 h3
  have HO2 := Lib.hid (show Own w.heap.size (w2.alloc (.cells #[] 9)).drew (.slice (some ⟨w2.heap.size, 0, none⟩) 0 0) [] from World.ownsRow.drew (own_lit w2 w.heap.size HB2.out.size))
  have HS3 := Lib.hid (HS2.out.below (((Below.refl w2.heap.size w2).alloc (Nat.le_refl _) (.cells #[] 9)).drew))
  have HB3 := Lib.hid ((HB2.out.alloc HB2.out.size (.cells #[] 9)).drew)
  cases hany : xs.any (badB nul) with
  | true =>
    obtain ⟨p, rfl⟩ := h2.2 hany
    have HA := Lib.hid hany
    clear h2 hany
    go_wp2_with fail
    go_region_law (refine step_append_strs rfl _ _ rfl w.heap.size _ vo [] (dedS fold nul xs) rfl HO2.out rfl HS3.out (by have := HD.out; simp; omega) (by have := HB2.out.size; simp; omega) ?_; intro v3 w3 hown3 hgrow3)
    have HR := Lib.hid (And.intro (Own.strs hown3) (HB3.out.grown hgrow3 (by have := HB2.out.size; simp; omega) (fun j e => by cases e; exact HB2.out.size)))
    clear hown3 hgrow3
    go_wp2
    go_ret2
    exact ⟨v3, by rw [HA.out]; rfl, HR.out⟩
  | false =>
    obtain rfl := h2.1 hany
    have HA := Lib.hid hany
    clear h2 hany
    go_wp2_with fail
    go_region_law (refine step_append_strs rfl _ _ rfl w.heap.size _ vo [] (dedS fold nul xs) rfl HO2.out rfl HS3.out (by have := HD.out; simp; omega) (by have := HB2.out.size; simp; omega) ?_; intro v3 w3 hown3 hgrow3)
    have HR := Lib.hid (And.intro (Own.strs hown3) (HB3.out.grown hgrow3 (by have := HB2.out.size; simp; omega) (fun j e => by cases e; exact HB2.out.size)))
    clear hown3 hgrow3
    go_wp2
    go_ret2
    exact ⟨v3, by rw [HA.out]; rfl, HR.out⟩
end Go.Proofs.YtooajjeikfmieaaDoor
