/-
  What is proved here: laws for the walk on a map from strings to bools that the call itself makes and fills with true: its making with a size hint, the look-up, the store. Conditions: those that each law names.
-/
import Derived.Test.YtooajjeikfmieaaDoorOwn
import Derived.Maps.OwnOps
import Derived.Maps.Views
namespace Go.Proofs.YtooajjeikfmieaaDoor
open Go.RowKit Go.Maps

/-- block B is a map of at most n entries whose keys are ks, each with true -/
def Saw (w : World) (B n : Nat) (ks : List (List UInt8)) : Prop :=
  w.ownsMap (H := Unit) Tryd.prog 9 (plainElem Tryd.prog 4) B n (setOf (.lit (.bool true)) (ks.map Lit.string))

theorem keyLaw : Keyed Tryd.prog 9 := string_keyed Tryd.underlying9
theorem zeroB (w : World) : (zeroValue 4).run Tryd.prog w = .ok (.bool false) w := by kernel_rfl

theorem plainElem_bool_inv {H : Type} {P : Program} {e : TypeId} (he : P.underlying e = some .bool) {v : Value} {c : Bool} {ps : List MemPlace} (h : plainElem (H := H) P e v = some (.lit (.bool c), ps)) : v = .bool c := by
  unfold plainElem at h
  rw [he] at h
  cases v <;> simp at h
  rw [h.1]

theorem isKey_string (s : List UInt8) : WideAt.IsKeyLit (Lit.string s) := trivial

theorem atKey_setOf {H : Type} (u z : DataW H) (k : Lit) (hk : WideAt.IsKeyLit k) : ∀ (acc : List Lit) (m : DataW H), IsMap m → (∀ x ∈ acc, WideAt.IsKeyLit x) →
    (acc.foldl (fun m x => m.put x u) m).atKey k z = if acc.any (fun x => x.sameKey k) then u else m.atKey k z
  | [], m, _, _ => by simp
  | x :: r, m, hm, h => by
    rw [List.foldl_cons, atKey_setOf u z k hk r (m.put x u) (hm.put x u) (fun y hy => h y (by simp [hy])), List.any_cons]
    by_cases e : k = x
    · subst e
      rw [atKey_put_same hm hk, WideAt.sameKey_self hk]
      simp
    · rw [atKey_put_other e, sameKey_ne (fun e' => e e'.symm)]
      simp

theorem any_same (ks : List (List UInt8)) (s : List UInt8) : (ks.map Lit.string).any (fun x => x.sameKey (.string s)) = decide (s ∈ ks) := by
  rw [Bool.eq_iff_iff, List.any_eq_true, decide_eq_true_eq]
  constructor
  · rintro ⟨x, hx, he⟩
    obtain ⟨y, hy, rfl⟩ := List.mem_map.1 hx
    have := WideAt.sameKey_eq he
    cases this
    exact hy
  · intro h
    exact ⟨.string s, List.mem_map.2 ⟨s, h, rfl⟩, WideAt.sameKey_self (isKey_string s)⟩

theorem saw_at (ks : List (List UInt8)) (s : List UInt8) : (setOf (H := Unit) (.lit (.bool true)) (ks.map Lit.string)).atKey (.string s) (.lit (.bool false)) = .lit (.bool (decide (s ∈ ks))) := by
  rw [setOf, atKey_setOf _ _ _ (isKey_string s) _ _ isMap_empty (fun x hx => by obtain ⟨y, _, rfl⟩ := List.mem_map.1 hx; exact isKey_string y), any_same]
  by_cases h : s ∈ ks
  · simp [h]
  · simp only [h, decide_false]
    rfl

theorem Saw.made (w : World) : Saw (w.alloc (.map #[] 0)) w.heap.size 0 [] := World.ownsMap_made w _ _ _
theorem Saw.kept {w w' : World} {B n : Nat} {ks : List (List UInt8)} {row : Option Nat} (h : Saw w B n ks) (hg : w.grownBy w' row) (hne : some B ≠ row) : Saw w' B n ks := World.ownsMap.kept h hg hne
theorem Saw.lt {w : World} {B n : Nat} {ks : List (List UInt8)} (h : Saw w B n ks) : B < w.heap.size := World.ownsMap.lt h

/-- 'saw[k]' -/
theorem wpList_saw {w : World} {ops : Array Oper} {rest : List Oper} {o : Oper} {a : Act} {Q : Exit → Act → World → Prop} (hg : o.guard = none) (m x : Operand) (hop : o.op = Op.lookup 43 m x false)
    (B n : Nat) (ks : List (List UInt8)) (hm : a.eval m = .map (some B)) (hs : Saw w B n ks) (s : ByteArray) (hsz : s.size ≤ maxLen) (hx : a.eval x = .string s) (c : Bool) (hc : decide (s.data.toList ∈ ks) = c)
    (hK : wpList Tryd.prog ops Q rest (a.put o.dst (.bool c)) w) : wpList Tryd.prog ops Q (o :: rest) a w := by
  refine wpList_plain hg fun K' hK' => ?_
  obtain ⟨v, ps, hrun, hv⟩ := World.ownsMap.lookup hs keyLaw Tryd.underlying43 (zeroB w) (plainElem_bool Tryd.underlying4 false) (WideMaps.keyOf_string_mk Tryd.underlying9 hsz)
  rw [saw_at, hc] at hv
  obtain rfl := plainElem_bool_inv Tryd.underlying4 hv
  unfold Oper.wp
  simp [execOp, hop, hm, hx, hrun, Result.andThen]
  exact hK' _ _ hK

/-- 'saw[k] = true' -/
theorem wpList_see {w : World} {ops : Array Oper} {rest : List Oper} {o : Oper} {a : Act} {Q : Exit → Act → World → Prop} (hg : o.guard = none) (m x v : Operand) (hop : o.op = Op.mapUpdate 43 m x v)
    (B n : Nat) (ks : List (List UInt8)) (hm : a.eval m = .map (some B)) (hs : Saw w B n ks) (hn : n < maxLen) (s : ByteArray) (hsz : s.size ≤ maxLen) (hx : a.eval x = .string s) (hv : a.eval v = .bool true)
    (hK : ∀ w', Saw w' B (n + 1) (ks ++ [s.data.toList]) → w.grownBy w' (some B) → wpList Tryd.prog ops Q rest (a.put o.dst undef) w') : wpList Tryd.prog ops Q (o :: rest) a w :=
  wpList_mapUpdate_own w hg m x v 43 hop 9 4 keyLaw Tryd.underlying43 (plainElem Tryd.prog 4) B n _ hm hs hn (.string s) (.bool true) (.string s.data.toList) hx hv (WideMaps.keyOf_string_mk Tryd.underlying9 hsz) (.lit (.bool true)) [] (plainElem_bool Tryd.underlying4 true)
    fun w' h1 h2 => hK w' (by rw [Saw, List.map_append]; exact (setOf_snoc _ _ _).symm ▸ h1) h2

/-- 'make(map[string]bool, n)' -/
theorem run_makeSaw (n : Int) (w : World) : (Instr.makeMap 43 (some (.int .i64 n))).run Tryd.prog w = .ok (.map (some w.heap.size)) (w.alloc (.map #[] 0)) := by
  have h43 := run_underlying Tryd.underlying43 (w := w)
  simp only [Instr.makeMap, Sem.run_bind, h43, Result.andThen]
  rfl
end Go.Proofs.YtooajjeikfmieaaDoor
