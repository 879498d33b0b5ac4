/- Sets of ints kept in a map[int]bool that the call makes: for seat b6617202aM. -/
import Derived.Test.Qxb6617202aModsAid
namespace Go.Proofs.Qxb6617202aMods
open Go.RowKit Go.Deep Go.Maps
set_option linter.unusedVariables false

theorem law3 : Keyed Trym.prog 3 := int_keyed Trym.underlying3
theorem zero4 (w : World) : (zeroValue 4).run Trym.prog w = .ok (.bool false) w := by kernel_rfl

theorem isKey (x : Int) : WideAt.IsKeyLit (.int .i64 x) := trivial

/-- D says of each int whether it is in S. -/
def Says (D : DataW Unit) (S : Int → Prop) : Prop := ∀ x, (Lit.int .i64 x).wf = true → ∃ v : Bool, D.atKey (.int .i64 x) (.lit (.bool false)) = .lit (.bool v) ∧ (v = true ↔ S x) ∧ Maps.has D (.int .i64 x) = v

/-- Block b is a map[int]bool that holds 'true' at just the ints in S; at most N entries. -/
def SetIs (w : World) (b N : Nat) (S : Int → Prop) : Prop := ∃ D : DataW Unit, w.ownsMap Trym.prog 3 (plainElem Trym.prog 4) b N D ∧ Says D S

theorem SetIs.congr {w : World} {b N : Nat} {S S' : Int → Prop} (h : SetIs w b N S) (e : ∀ x, S x ↔ S' x) : SetIs w b N S' := by
  obtain ⟨D, h1, h2⟩ := h
  refine ⟨D, h1, fun x hx => ?_⟩
  obtain ⟨v, a, b, c⟩ := h2 x hx
  exact ⟨v, a, b.trans (e x), c⟩
theorem SetIs.mono {w : World} {b N N' : Nat} {S : Int → Prop} (h : SetIs w b N S) (hN : N ≤ N') : SetIs w b N' S := by
  obtain ⟨D, h1, h2⟩ := h
  exact ⟨D, h1.mono hN, h2⟩
theorem SetIs.lt {w : World} {b N : Nat} {S : Int → Prop} (h : SetIs w b N S) : b < w.heap.size := by
  obtain ⟨D, h1, h2⟩ := h
  exact h1.lt
theorem SetIs.kept {w w' : World} {b N : Nat} {S : Int → Prop} {row : Option Nat} (h : SetIs w b N S) (hg : w.grownBy w' row) (hne : some b ≠ row) : SetIs w' b N S := by
  obtain ⟨D, h1, h2⟩ := h
  exact ⟨D, h1.kept hg hne, h2⟩
theorem SetIs.alloc {w : World} {b N : Nat} {S : Int → Prop} (h : SetIs w b N S) (o : Obj) : SetIs (w.alloc o) b N S := by
  obtain ⟨D, h1, h2⟩ := h
  exact ⟨D, h1.alloc o, h2⟩
theorem SetIs_made (w : World) : SetIs (w.alloc (.map #[] 0)) w.heap.size 0 (fun _ => False) :=
  ⟨.map [], World.ownsMap_made _ _ _ _, fun x _ => ⟨false, rfl, by simp, rfl⟩⟩

theorem Says.add {D : DataW Unit} {S : Int → Prop} (hD : IsMap D) (h : Says D S) (k : Int) : Says (D.put (.int .i64 k) (.lit (.bool true))) (fun y => y = k ∨ S y) := by
  intro x hx
  by_cases e : x = k
  · subst e
    exact ⟨true, atKey_put_same hD (isKey _) _ _, by simp, has_put_same hD (isKey _) _⟩
  · have hne : (Lit.int .i64 x) ≠ .int .i64 k := fun h => e (by cases h; rfl)
    obtain ⟨v, a, b, c⟩ := h x hx
    exact ⟨v, by rw [atKey_put_other hne]; exact a, b.trans (by simp [e]), by rw [has_put_other hne]; exact c⟩

/-- 's[k] = true' AT THE OPERATION. -/
theorem wpList_set_add (w : World) {ops : Array Oper} {rest : List Oper} {o : Oper} {a : Act} {Q : Exit → Act → World → Prop}
    (hg : o.guard = none) (m x v : Operand) (hop : o.op = Op.mapUpdate 52 m x v) (b N : Nat) (S : Int → Prop) (hm : a.eval m = .map (some b)) (h : SetIs w b N S) (hN : N < maxLen)
    (k : Int) (hx : a.eval x = .int .i64 k) (hv : a.eval v = .bool true) (hwf : (Lit.int .i64 k).wf = true)
    (hK : ∀ w', SetIs w' b (N + 1) (fun y => y = k ∨ S y) → w.grownBy w' (some b) → wpList Trym.prog ops Q rest (a.put o.dst undef) w') :
    wpList Trym.prog ops Q (o :: rest) a w := by
  obtain ⟨D, h1, h2⟩ := h
  refine wpList_mapUpdate_own w hg m x v 52 hop 3 4 law3 Trym.underlying52 _ b N D hm h1 hN _ _ _ hx hv (keyOf_int_mk Trym.underlying3 hwf) _ [] (plainElem_bool Trym.underlying4 true) ?_
  intro w' h1' hg'
  exact hK w' ⟨_, h1', h2.add h1.isMap k⟩ hg'

theorem plainElem_bool_inv {v : Value} {z : DataW Unit × List MemPlace} (h : plainElem Trym.prog 4 v = some z) : ∃ x, v = .bool x ∧ z = (.lit (.bool x), []) := by
  unfold plainElem at h
  rw [Trym.underlying4] at h
  cases v <;> simp at h
  exact ⟨_, rfl, h.symm⟩

/-- 's[k]' AT THE OPERATION. -/
theorem wpList_set_look (w : World) {ops : Array Oper} {rest : List Oper} {o : Oper} {a : Act} {Q : Exit → Act → World → Prop}
    (hg : o.guard = none) (m x : Operand) (hop : o.op = Op.lookup 52 m x false) (b N : Nat) (S : Int → Prop) (hm : a.eval m = .map (some b)) (h : SetIs w b N S)
    (k : Int) (hx : a.eval x = .int .i64 k) (hwf : (Lit.int .i64 k).wf = true)
    (hK : ∀ c : Bool, (c = true ↔ S k) → wpList Trym.prog ops Q rest (a.put o.dst (.bool c)) w) :
    wpList Trym.prog ops Q (o :: rest) a w := by
  obtain ⟨D, h1, h2⟩ := h
  obtain ⟨c, ha, hc, _⟩ := h2 k hwf
  refine wpList_plain hg fun K' hK' => ?_
  obtain ⟨v, ps, hrun, hv⟩ := h1.lookup law3 Trym.underlying52 (zero4 w) (plainElem_bool Trym.underlying4 false) (keyOf_int_mk Trym.underlying3 hwf)
  obtain ⟨y, rfl, hy⟩ := plainElem_bool_inv hv
  rw [ha] at hy
  have e : c = y := by simpa using congrArg Prod.fst hy
  subst e
  unfold Oper.wp
  simp [execOp, hop, hm, hx, hrun, Result.andThen]
  exact hK' _ _ (hK c hc)

/-- A range over a set under way: 'left' says which are still to come. -/
def SetRange (w : World) (b r N : Nat) (S : Int → Prop) (left : Int → Prop) (cnt : Nat) : Prop :=
  ∃ (D : DataW Unit) (l : Lit → Bool), w.ranges Trym.prog 3 (plainElem Trym.prog 4) b r N D l cnt ∧ Says D S ∧ ∀ x, (Lit.int .i64 x).wf = true → (l (.int .i64 x) = true ↔ left x)

theorem SetRange.left_eq {w : World} {b r N : Nat} {S left : Int → Prop} {cnt : Nat} (h : SetRange w b r N S left cnt) : w.rangeLeft b r = cnt := by
  obtain ⟨D, l, h1, _⟩ := h
  exact h1.left_eq

/-- 'range s' AT THE OPERATION. -/
theorem wpList_set_range (w : World) {ops : Array Oper} {rest : List Oper} {o : Oper} {a : Act} {Q : Exit → Act → World → Prop}
    (hg : o.guard = none) (m : Operand) (hop : o.op = Op.range 52 m) (b N : Nat) (S : Int → Prop) (hm : a.eval m = .map (some b)) (h : SetIs w b N S)
    (hK : ∀ w' cnt, SetRange w' b w.heap.size N S S cnt → w.grownBy w' none → w'.heap.size = w.heap.size + 1 → wpList Trym.prog ops Q rest (a.put o.dst (.pointer (some ⟨w.heap.size, 0, none⟩))) w') :
    wpList Trym.prog ops Q (o :: rest) a w := by
  obtain ⟨D, h1, h2⟩ := h
  refine wpList_range_own w hg m 52 hop 3 4 law3 Trym.underlying52 _ b N D hm h1 ?_
  intro w' hr hgr hs
  refine hK w' _ ⟨D, _, hr, h2, fun x hx => ?_⟩ hgr hs
  obtain ⟨v, _, hv, hh⟩ := h2 x hx
  rw [hh]; exact hv

/-- The range's step AT THE OPERATION. -/
theorem wpList_set_next (w : World) {ops : Array Oper} {rest : List Oper} {o : Oper} {a : Act} {Q : Exit → Act → World → Prop}
    (hg : o.guard = none) (it : Operand) (hop : o.op = Op.next it false) (b r N : Nat) (S left : Int → Prop) (cnt : Nat) (hit : a.eval it = .pointer (some ⟨r, 0, none⟩)) (h : SetRange w b r N S left cnt)
    (hDone : (∀ x, (Lit.int .i64 x).wf = true → ¬ left x) → wpList Trym.prog ops Q rest (a.put o.dst (.tuple #[.bool false])) w)
    (hMore : ∀ (x : Int) (c : Value) (w' : World) (cnt' : Nat), (Lit.int .i64 x).wf = true → left x → S x → SetRange w' b r N S (fun y => left y ∧ y ≠ x) cnt' → cnt' < cnt → w.grownBy w' (some r) → w'.heap.size = w.heap.size →
      (Instr.entry (.pointer (some ⟨r, 0, none⟩))).run Trym.prog w' = .ok (.tuple #[.int .i64 x, c]) w' → wpList Trym.prog ops Q rest (a.put o.dst (.tuple #[.bool true, .int .i64 x, c])) w') :
    wpList Trym.prog ops Q (o :: rest) a w := by
  obtain ⟨D, l, h1, h2, h3⟩ := h
  refine wpList_next_ranges w hg it hop 3 law3 (plainElem Trym.prog 4) (Value.int .i64) Value.bool (fun key kl hkey => by obtain ⟨x, rfl, _⟩ := Maps.keyOf_int_inv Trym.underlying3 hkey; exact ⟨x, rfl⟩) (fun v y hv => by obtain ⟨c, rfl, _⟩ := plainElem_bool_inv hv; exact ⟨c, rfl⟩) b r N D l cnt hit h1 ?_ ?_
  · intro _ hl
    refine hDone fun x hx hlx => ?_
    have := (h3 x hx).2 hlx
    rw [hl] at this
    cases this
  · intro x c kl y w' cnt' hkey hl hR hat hr hlt hgr hs hen
    obtain ⟨x', e1, e2, hwf⟩ := Maps.keyOf_int_inv Trym.underlying3 hkey
    cases e1
    subst e2
    have hleft := (h3 x hwf).1 hl
    have hSx : S x := by
      obtain ⟨v, ha, hv, hh⟩ := h2 x hwf
      refine hv.1 ?_
      obtain ⟨c', e1, e2⟩ := plainElem_bool_inv hR
      -- were the key absent, the look-up would answer whatever default it is given
      have k1 := hat (.lit (.bool true))
      have k2 := hat (.lit (.bool false))
      cases v with
      | true => rfl
      | false =>
        have k3 := atKey_of_not_has hh (.lit (.bool true))
        rw [k3] at k1
        rw [atKey_of_not_has hh (.lit (.bool false))] at k2
        rw [← k2] at k1
        simp at k1
    refine hMore x (.bool c) w' cnt' hwf hleft hSx ⟨D, _, hr, h2, fun y hy => ?_⟩ hlt hgr hs hen
    by_cases e : y = x
    · subst e
      have : (Lit.int .i64 y).sameKey (.int .i64 y) = true := WideAt.sameKey_self (isKey _)
      simp [this]
    · have : (Lit.int .i64 y).sameKey (.int .i64 x) = false := by
        simp [Lit.sameKey, e]
      simp [this, e, h3 y hy]
end Go.Proofs.Qxb6617202aMods
