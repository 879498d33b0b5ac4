/- Memory words for seat b6617202aM. -/
import Derived.Test.Qxb6617202aModsRows
import Derived.Test.Qxb6617202aModsPlain
import Derived.WalkKit
import Derived.WalkSpells
import Derived.WalkLawsBesides
import Derived.Deep.OwnRows
import Derived.Deep.QuietTactic
import Derived.BigQuiet
import Derived.Maps.OwnOps
import Derived.Maps.OwnSet
import Derived.Maps.RangeWalk
namespace Go.Proofs.Qxb6617202aMods
open Go.RowKit Go.Deep Go.Maps
set_option linter.unusedVariables false

theorem Trym.info42 : (Trym.prog.info? 42).map (fun i => (i.zero, i.size, i.bytes)) = some (some (.slice none 0 0), 1, 24) := by kernel_rfl
theorem Trym.info29 : (Trym.prog.info? 29).map (fun i => (i.zero, i.size, i.bytes)) = some (some (.slice none 0 0), 1, 24) := by kernel_rfl
theorem Trym.info44 : (Trym.prog.info? 44).map (fun i => (i.zero, i.size, i.bytes)) = some (some (.agg #[.int .i64 0, .int .i64 0, .int .i64 0]), 3, 24) := by kernel_rfl
theorem Trym.info30 : (Trym.prog.info? 30).map (fun i => (i.zero, i.size, i.bytes)) = some (some (.agg #[.int .i64 0, .int .i64 0, .int .i64 0]), 3, 24) := by kernel_rfl

/-- The slice value of a share: the first k of a list; nil where none was taken. -/
def shv (a : Option Addr) (c k : Nat) : Value := if k = 0 then .slice none 0 0 else .slice a k c

/-- The lists at a: 'n' slices, the i-th at 'A i' of length 'L i'; each element three numbers. -/
structure Rd (w : World) (a : Option Addr) (n : Nat) (A : Nat → Option Addr) (L C : Nat → Nat) (X : Nat → Nat → Nat → Int) : Prop where
  outer : ∀ i, i < n → ∃ b off, a = some ⟨b, off, none⟩ ∧ w.cell? ⟨b, off + i, none⟩ = some (.slice (A i) (L i) (C i))
  inner : ∀ i, i < n → ∀ j, j < L i → ∃ b off, A i = some ⟨b, off, none⟩ ∧ ∀ c, c < 3 → w.cell? ⟨b, off + (j * 3 + c), none⟩ = some (.int .i64 (X i j c))

theorem Rd.below {w w' : World} {a : Option Addr} {n : Nat} {A : Nat → Option Addr} {L C : Nat → Nat} {X : Nat → Nat → Nat → Int} (h : Rd w a n A L C X) (hb : Below w.heap.size w w') : Rd w' a n A L C X := by
  refine ⟨fun i hi => ?_, fun i hi j hj => ?_⟩
  · obtain ⟨b, off, e, hc⟩ := h.outer i hi
    exact ⟨b, off, e, (hb.cell (World.block_lt_of_cell? w _ hc)).trans hc⟩
  · obtain ⟨b, off, e, hc⟩ := h.inner i hi j hj
    exact ⟨b, off, e, fun c hcc => (hb.cell (World.block_lt_of_cell? w _ (hc c hcc))).trans (hc c hcc)⟩
end Go.Proofs.Qxb6617202aMods
