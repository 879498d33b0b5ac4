/- '[]string' in memory, and what is wrong with an entry: for seat b6617202aM. -/
import Derived.Test.Qxb6617202aModsRows
import Derived.WalkKit
import Derived.WalkSpells
import Derived.WalkLawsBesides
import Derived.Deep.OwnRows
import Derived.Deep.Cut
import Derived.Deep.CutBlock
import Derived.Laws.CopyOwn
import Derived.Deep.Slices
import Derived.SliceStrings
import Derived.OpenShut
import Derived.ProofKit
namespace Go.Proofs.Qxb6617202aMods
open Go.RowKit Go.Deep Go.ChangeShapes Go.WideShapes
set_option linter.unusedVariables false

theorem Trym.info9 : (Trym.prog.info? 9).map (fun i => (i.zero, i.size, i.bytes)) = some (some (.string ByteArray.empty), 1, 16) := by kernel_rfl
theorem Trym.size9 : (Trym.prog.info? 9).map (·.size) = some 1 := by kernel_rfl
theorem Trym.cells9 : Trym.prog.cellsOf 9 = 1 := by kernel_rfl

/-- n strings at a. -/
def Strs (w : World) (a : Option Addr) (n : Nat) (F : Nat → ByteArray) : Prop := ∀ i, i < n → ∃ b off, a = some ⟨b, off, none⟩ ∧ w.cell? ⟨b, off + i, none⟩ = some (.string (F i))

theorem Strs.below {w w' : World} {a : Option Addr} {n : Nat} {F : Nat → ByteArray} (h : Strs w a n F) (hb : Below w.heap.size w w') : Strs w' a n F := fun i hi => by
  obtain ⟨b, off, e, hc⟩ := h i hi
  exact ⟨b, off, e, (hb.cell (World.block_lt_of_cell? w _ hc)).trans hc⟩

/-- 'c := make([]string, len(x)); copy(c, x)': the copy, behind the make. -/
theorem copy_strs (w : World) (x : Addr) (n cap : Nat) (F : Nat → ByteArray) (h : Strs w (some x) n F) :
    ∃ W, (Builtin.copy_ #[33, 33] 3 #[.slice (some ⟨w.heap.size, 0, none⟩) n n, .slice (some x) n cap]).run Trym.prog (w.alloc (.cells (madeCells #[.string ByteArray.empty] n) 9)) = .ok (.int .i64 n) W ∧
      Strs W (some ⟨w.heap.size, 0, none⟩) n F ∧ Below w.heap.size w W := by
  by_cases hn : n = 0
  · subst hn
    exact ⟨_, run_copy_none (P := Trym.prog) _ 33 33 3 9 _ _ 0 0 0 cap Trym.underlying33 Trym.size9 rfl, fun i hi => absurd hi (Nat.not_lt_zero _), (Below.refl _ _).alloc (Nat.le_refl _) _⟩
  have hg : (w.alloc (.cells (madeCells #[.string ByteArray.empty] n) 9)).heap[w.heap.size]? = some (.cells (madeCells #[.string ByteArray.empty] n) 9 (0, 0)) := heap_alloc_new _ _
  have hsz := size_madeCells #[.string ByteArray.empty] n
  obtain ⟨b, off, e0, _⟩ := h 0 (by omega)
  obtain rfl := Option.some.inj e0
  have hc : ∀ j, j < n → w.cell? ⟨b, off + j, none⟩ = some (.string (F j)) := fun j hj => by
    obtain ⟨b', off', e, hc⟩ := h j hj
    obtain ⟨rfl, rfl⟩ : b = b' ∧ off = off' := by simpa using e
    exact hc
  have hb : b < w.heap.size := World.block_lt_of_cell? w _ (hc 0 (by omega))
  obtain ⟨cs, hcs⟩ : ∃ cs, cs = (List.range n).map (fun j => Value.string (F j)) := ⟨_, rfl⟩
  have hl : cs.length = n := by rw [hcs]; simp
  have hrun := run_copy_row (P := Trym.prog) (w.alloc (.cells (madeCells #[.string ByteArray.empty] n) 9)) 33 33 3 9 w.heap.size 0 n n ⟨b, off, none⟩ n cap (madeCells #[.string ByteArray.empty] n) 9 cs Trym.underlying33 Trym.size9 hg
    (by rw [hl]; exact (Nat.min_self _).symm)
    (by
      intro j v hj
      have hjl : j < n := by
        have := (List.getElem?_eq_some_iff.1 hj).1
        omega
      rw [Addr.add_lit, World.cell?_alloc_lt _ _ _ (by exact hb), hc j hjl]
      rw [hcs] at hj
      simpa [hjl] using hj)
    (by rw [hl, hsz]; omega)
    (by
      intro v hv
      rw [hcs] at hv
      obtain ⟨j, _, rfl⟩ := List.mem_map.1 hv
      rfl)
  rw [hl] at hrun
  have e : ((madeCells #[.string ByteArray.empty] n).toList.take 0 ++ cs ++ (madeCells #[.string ByteArray.empty] n).toList.drop (0 + n)).toArray = cs.toArray := by
    rw [List.drop_of_length_le (by simp [hsz])]
    simp
  rw [e] at hrun
  have hrow : ((w.alloc (.cells (madeCells #[.string ByteArray.empty] n) 9)).setRow w.heap.size cs.toArray).rowIs w.heap.size 9 n (fun j => .string (F j)) := by
    refine ⟨cs.toArray, setRow_heap _ _ _ _ 9 _ hg, by simpa using hl, ?_⟩
    intro i hi
    rw [hcs]
    simp [hi]
  exact ⟨_, hrun, fun i hi => ⟨w.heap.size, 0, rfl, by rw [Nat.zero_add]; exact hrow.cell hi⟩, below_setRow ((Below.refl _ _).alloc (Nat.le_refl _) _) (Nat.le_refl _) _⟩

/-- A '[]string' that came in. -/
theorem open_strs {H : Type} {enc : TypeId × Value → H} {W : World} {base fuel : Nat} {held : Bool} {a : Option Addr} {n cap : Nat} {x : DataW H × List MemPlace} (h : DataW.trod enc Trym.prog W base (fun _ => true) held fuel 33 [.slice a n cap] = some x) :
    ∃ F : Nat → ByteArray, Strs W a n F ∧ n ≤ 9223372036854775807 ∧ (∀ i, i < n → (F i).size ≤ 9223372036854775807) ∧ (a = none → n = 0 ∧ cap = 0) ∧ n ≤ cap := by
  rcases open_slice1 Trym.underlying33 Trym.cells9 h with ⟨e, _⟩ | ⟨ad, len, cap', m, f, V, D, Pl, e, _, hl, hm, hmm, _, hx⟩
  · simp at e
    obtain ⟨rfl, rfl, rfl⟩ := e
    exact ⟨fun _ => ByteArray.empty, fun i hi => absurd hi (Nat.not_lt_zero _), Nat.zero_le _, fun i hi => absurd hi (Nat.not_lt_zero _), fun _ => ⟨rfl, rfl⟩, Nat.le_refl _⟩
  · simp at e
    obtain ⟨rfl, rfl, rfl⟩ := e
    simp only [if_true] at hmm
    subst hmm
    obtain ⟨F, hF⟩ := choose_lt (α := ByteArray) (n := n) (p := fun i s => V i = .string s ∧ s.size ≤ maxLen) (fun i hi => by
      obtain ⟨s, e1, _, e3⟩ := DataW.trod_string Trym.underlying9 (hx i (by omega)).2
      exact ⟨s, by simpa using e1, e3⟩)
    unfold maxLen at hF hm
    refine ⟨F, fun i hi => ?_, by omega, fun i hi => (hF i hi).2, (by intro h; cases h), hl⟩
    obtain ⟨b, off, spot⟩ := ad
    have hspot : spot = none := by simpa [Addr.add] using World.cell?_spot (hx 0 (by omega)).1
    subst hspot
    refine ⟨b, off, rfl, ?_⟩
    rw [← add_plain, (hx i (by omega)).1, (hF i hi).1]
end Go.Proofs.Qxb6617202aMods
