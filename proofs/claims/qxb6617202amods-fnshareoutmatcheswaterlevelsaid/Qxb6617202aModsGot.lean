/- Two lists of ints that grow side by side by 'append'. -/
import Derived.Test.Qxb6617202aModsSort
import Derived.Test.Qxb6617202aModsWalkA
import Derived.Maps.AppendAt
import Derived.OwnWalk
namespace Go.Proofs.Qxb6617202aMods
open Go.RowKit Go.Deep
set_option linter.unusedVariables false

/-- The first k of F as cells. -/
def Vals (k : Nat) (F : Nat → Int) : List Value := (List.range k).map fun i => .int .i64 (F i)
theorem Vals_push (k : Nat) (F : Nat → Int) (x : Int) : Vals k F ++ [.int .i64 x] = Vals (k + 1) (setf F k x) := by
  unfold Vals
  rw [List.range_succ, List.map_append]
  simp only [List.map_cons, List.map_nil, setf_same]
  congr 1
  refine List.map_congr_left fun i hi => ?_
  rw [setf_lt F x (List.mem_range.1 hi)]

/-- Two lists, each the call's own, in blocks of their own. -/
structure Got (B : Nat) (w : World) (v8 v9 : Value) (k1 k2 : Nat) (F T : Nat → Int) : Prop where
  f : w.ownsRow B 3 1 v8 k1 (Vals k1 F)
  t : w.ownsRow B 3 1 v9 k2 (Vals k2 T)
  apart : ∀ g, v8.ownBlock = some g → v9.ownBlock ≠ some g
  base : B ≤ w.heap.size

theorem Got.start (w : World) (F T : Nat → Int) : Got w.heap.size w (.slice none 0 0) (.slice none 0 0) 0 0 F T :=
  ⟨World.ownsRow_nil _ _ _ _, World.ownsRow_nil _ _ _ _, fun g h => (by cases h), Nat.le_refl _⟩
theorem Got.drewN {B : Nat} {w : World} {v8 v9 : Value} {k1 k2 : Nat} {F T : Nat → Int} (h : Got B w v8 v9 k1 k2 F T) (m : Nat) : Got B (w.drewN m) v8 v9 k1 k2 F T := ⟨h.f, h.t, h.apart, h.base⟩
theorem Got.pushF {B : Nat} {w w' : World} {v8 v9 v' : Value} {k1 k2 : Nat} {F T : Nat → Int} {x : Int} {o : Obj} (h : Got B w v8 v9 k1 k2 F T)
    (hown : w'.ownsRow B 3 1 v' (k1 + 1) (Vals k1 F ++ [.int .i64 x])) (hg : (w.alloc o).grownBy w' v8.ownBlock) (hloc : v'.ownBlock = v8.ownBlock ∨ v'.ownBlock = some (w.alloc o).heap.size) :
    Got B w' v' v9 (k1 + 1) k2 (setf F k1 x) T := by
  have hz : (w.alloc o).heap.size = w.heap.size + 1 := by simp
  refine ⟨by rw [← Vals_push]; exact hown, (h.t.alloc o).kept hg ?_, ?_, Nat.le_trans h.base (Nat.le_trans (by omega) hg.size)⟩
  · cases e : v9.ownBlock with
    | none => exact .inl rfl
    | some g => exact .inr fun e' => h.apart g e'.symm e
  · intro g e e'
    rcases hloc with hl | hl
    · exact h.apart g (hl.symm.trans e) e'
    · have := (h.t.lt g e').2
      rw [hl] at e
      cases e
      omega
theorem Got.pushT {B : Nat} {w w' : World} {v8 v9 v' : Value} {k1 k2 : Nat} {F T : Nat → Int} {x : Int} {o : Obj} (h : Got B w v8 v9 k1 k2 F T)
    (hown : w'.ownsRow B 3 1 v' (k2 + 1) (Vals k2 T ++ [.int .i64 x])) (hg : (w.alloc o).grownBy w' v9.ownBlock) (hloc : v'.ownBlock = v9.ownBlock ∨ v'.ownBlock = some (w.alloc o).heap.size) :
    Got B w' v8 v' k1 (k2 + 1) F (setf T k2 x) := by
  have hz : (w.alloc o).heap.size = w.heap.size + 1 := by simp
  refine ⟨(h.f.alloc o).kept hg ?_, by rw [← Vals_push]; exact hown, ?_, Nat.le_trans h.base (Nat.le_trans (by omega) hg.size)⟩
  · cases e : v8.ownBlock with
    | none => exact .inl rfl
    | some g => exact .inr fun e' => h.apart g e e'.symm
  · intro g e e'
    rcases hloc with hl | hl
    · exact h.apart g e (hl.symm.trans e')
    · have := (h.f.lt g e).2
      rw [hl] at e'
      cases e'
      omega
theorem Got.belowF {B : Nat} {w0 w w' : World} {v8 v9 : Value} {k1 k2 : Nat} {F T : Nat → Int} {o : Obj} (h : Got B w v8 v9 k1 k2 F T) (hb : Below B w0 w) (hg : (w.alloc o).grownBy w' v8.ownBlock) : Below B w0 w' :=
  (hb.alloc h.base o).grown hg (Nat.le_trans h.base (by simp)) fun k e => (h.f.lt k e).1
theorem Got.belowT {B : Nat} {w0 w w' : World} {v8 v9 : Value} {k1 k2 : Nat} {F T : Nat → Int} {o : Obj} (h : Got B w v8 v9 k1 k2 F T) (hb : Below B w0 w) (hg : (w.alloc o).grownBy w' v9.ownBlock) : Below B w0 w' :=
  (hb.alloc h.base o).grown hg (Nat.le_trans h.base (by simp)) fun k e => (h.t.lt k e).1

theorem owns_ints {B : Nat} {w : World} {v : Value} {k : Nat} {F : Nat → Int} (h : w.ownsRow B 3 1 v k (Vals k F)) : ∃ a cap, v = .slice a k cap ∧ Ints w a k F := by
  rcases h.2 with ⟨rfl, rfl⟩ | ⟨g, cap, cur, rfl, _⟩
  · exact ⟨none, 0, rfl, fun i hi => absurd hi (Nat.not_lt_zero _)⟩
  · refine ⟨some ⟨g, 0, none⟩, cap, rfl, fun i hi => ⟨g, 0, rfl, ?_⟩⟩
    have := h.cells (g := g) rfl i (.int .i64 (F i)) (by unfold Vals; simp [hi])
    rw [Addr.add_lit] at this
    exact this

/-- The list holds what stands at place c of the moves ahead of (i, j). -/
theorem seen_push {K : Nat → Nat} {X : Nat → Nat → Nat → Int} {c i j k : Nat} {F : Nat → Int} (h : ∀ x, In F 0 k x ↔ Seen K X c i j x) : ∀ x, In (setf F k (X i j c)) 0 (k + 1) x ↔ Seen K X c i (j + 1) x := by
  intro x
  rw [In_setf (Nat.zero_le _), h x, ← Seen_step]
  constructor
  · rintro (h | h)
    · exact .inr h
    · exact .inl h.symm
  · rintro (h | h)
    · exact .inr h.symm
    · exact .inl h
end Go.Proofs.Qxb6617202aMods
