/- How '[][][3]int' reads: for seat b6617202aM. -/
import Derived.Test.Qxb6617202aModsAid
import Derived.Deep.Slices
import Derived.OpenShut
import Derived.ProofKit
namespace Go.Proofs.Qxb6617202aMods
open Go.RowKit Go.Deep Go.ChangeShapes Go.WideShapes
set_option linter.unusedVariables false

theorem Trym.cells29 : Trym.prog.cellsOf 29 = 1 := by kernel_rfl
theorem Trym.cells30 : Trym.prog.cellsOf 30 = 3 := by kernel_rfl
theorem Trym.cells3 : Trym.prog.cellsOf 3 = 1 := by kernel_rfl

/-- An array of three ints reads through its three cells. -/
theorem open_triple {H : Type} {enc : TypeId × Value → H} {W : World} {base fuel : Nat} {sp : Nat → Bool} {held : Bool} {cs : List Value} {x : DataW H × List MemPlace} (h : DataW.trod enc Trym.prog W base sp held fuel 30 cs = some x) :
    ∃ f : Nat → Int, ∀ c, c < 3 → cs[c]? = some (.int .i64 (f c)) ∧ (Lit.int .i64 (f c)).wf = true := by
  obtain ⟨xs, m, _, _, hl, hxl, hx⟩ := DataW.trod_array Trym.underlying30 h
  rw [Trym.cells30] at hl
  refine choose_lt (α := Int) (p := fun c v => cs[c]? = some (.int .i64 v) ∧ (Lit.int .i64 v).wf = true) fun c hc => ?_
  have h1 := hx c hc
  rw [Trym.cells3, Nat.mul_one, List.getElem?_eq_getElem (by omega)] at h1
  obtain ⟨v, e, _, hw⟩ := DataW.trod_int Trym.underlying3 h1
  refine ⟨v, ?_, hw⟩
  have e2 := congrArg (fun l : List Value => l[0]?) e
  simpa [List.getElem?_take, List.getElem?_drop] using e2

/-- A '[][3]int'. -/
theorem open_list {H : Type} {enc : TypeId × Value → H} {W : World} {base fuel : Nat} {held : Bool} {v : Value} {x : DataW H × List MemPlace} (h : DataW.trod enc Trym.prog W base (fun _ => true) held fuel 29 [v] = some x) :
    ∃ t : Option Addr × Nat × Nat × (Nat → Nat → Int), v = .slice t.1 t.2.1 t.2.2.1 ∧ t.2.1 ≤ maxLen ∧
      ∀ j, j < t.2.1 → ∃ b off, t.1 = some ⟨b, off, none⟩ ∧ ∀ c, c < 3 → W.cell? ⟨b, off + (j * 3 + c), none⟩ = some (.int .i64 (t.2.2.2 j c)) ∧ (Lit.int .i64 (t.2.2.2 j c)).wf = true := by
  rcases open_slice Trym.underlying29 h with ⟨e, _⟩ | ⟨a, len, cap, m, n, D, Pl, e, _, hl, hm, hmm, _, hx⟩
  · refine ⟨(none, 0, 0, fun _ _ => 0), by simpa using e, Nat.zero_le _, fun j hj => ?_⟩
    exact absurd hj (Nat.not_lt_zero _)
  · rw [Trym.cells30] at hx
    simp only [if_true] at hmm
    subst hmm
    have hX : ∃ X : Nat → Nat → Int, ∀ j, j < len → ∀ c, c < 3 → W.cell? ((a.add (j * 3)).add c) = some (.int .i64 (X j c)) ∧ (Lit.int .i64 (X j c)).wf = true := by
      refine choose_lt (α := Nat → Int) (p := fun j f => ∀ c, c < 3 → W.cell? ((a.add (j * 3)).add c) = some (.int .i64 (f c)) ∧ (Lit.int .i64 (f c)).wf = true) fun j hj => ?_
      obtain ⟨cs, h1, h2⟩ := hx j (by omega)
      obtain ⟨_, hcl, hcell⟩ := World.cells?_some h1
      obtain ⟨f, hf⟩ := open_triple h2
      exact ⟨f, fun c hc => ⟨(hcell c hc).trans (hf c hc).1, (hf c hc).2⟩⟩
    obtain ⟨X, hX⟩ := hX
    refine ⟨(some a, len, m, X), by simpa using e, by show len ≤ maxLen; omega, fun j hj => ?_⟩
    obtain ⟨b, off, spot⟩ := a
    have hspot : spot = none := by simpa [Addr.add] using World.cell?_spot (hX 0 (by show 0 < len; exact Nat.lt_of_le_of_lt (Nat.zero_le _) hj) 0 (by omega)).1
    subst hspot
    refine ⟨b, off, rfl, fun c hc => ?_⟩
    have h1 := hX j hj c hc
    rw [add_plain, add_plain, Nat.add_assoc] at h1
    exact h1

/-- A '[][][3]int'. -/
theorem open_pending {H : Type} {enc : TypeId × Value → H} {W : World} {base fuel : Nat} {held : Bool} {a : Option Addr} {n cap : Nat} {x : DataW H × List MemPlace} (h : DataW.trod enc Trym.prog W base (fun _ => true) held fuel 22 [.slice a n cap] = some x) :
    ∃ (A : Nat → Option Addr) (L C : Nat → Nat) (X : Nat → Nat → Nat → Int), Rd W a n A L C X ∧ n ≤ 9223372036854775807 ∧ (∀ i, i < n → L i ≤ 9223372036854775807) ∧ ∀ i, i < n → ∀ j, j < L i → ∀ c, c < 3 → (Lit.int .i64 (X i j c)).wf = true := by
  rcases open_slice1 Trym.underlying22 Trym.cells29 h with ⟨e, _⟩ | ⟨ad, len, cap', m, f, V, D, Pl, e, _, hl, hm, hmm, _, hx⟩
  · simp at e
    obtain ⟨rfl, rfl, rfl⟩ := e
    exact ⟨fun _ => none, fun _ => 0, fun _ => 0, fun _ _ _ => 0, ⟨fun i hi => absurd hi (Nat.not_lt_zero _), fun i hi => absurd hi (Nat.not_lt_zero _)⟩, Nat.zero_le _, fun i hi => absurd hi (Nat.not_lt_zero _), fun i hi => absurd hi (Nat.not_lt_zero _)⟩
  · simp at e
    obtain ⟨rfl, rfl, rfl⟩ := e
    simp only [if_true] at hmm
    subst hmm
    obtain ⟨T, hT⟩ := choose_lt (α := Option Addr × Nat × Nat × (Nat → Nat → Int)) (n := n) (p := fun i t => V i = .slice t.1 t.2.1 t.2.2.1 ∧ t.2.1 ≤ maxLen ∧
      ∀ j, j < t.2.1 → ∃ b off, t.1 = some ⟨b, off, none⟩ ∧ ∀ c, c < 3 → W.cell? ⟨b, off + (j * 3 + c), none⟩ = some (.int .i64 (t.2.2.2 j c)) ∧ (Lit.int .i64 (t.2.2.2 j c)).wf = true) (fun i hi => open_list (hx i (by omega)).2)
    refine ⟨fun i => (T i).1, fun i => (T i).2.1, fun i => (T i).2.2.1, fun i => (T i).2.2.2, ⟨fun i hi => ?_, fun i hi j hj => ?_⟩, ?_, fun i hi => ?_, fun i hi j hj c hc => ?_⟩
    · obtain ⟨b, off, spot⟩ := ad
      have hspot : spot = none := by simpa [Addr.add] using World.cell?_spot (hx 0 (by omega)).1
      subst hspot
      refine ⟨b, off, rfl, ?_⟩
      rw [← add_plain, (hx i (by omega)).1, (hT i hi).1]
    · obtain ⟨b, off, h1, h2⟩ := (hT i hi).2.2 j hj
      exact ⟨b, off, h1, fun c hc => (h2 c hc).1⟩
    · unfold maxLen at hm; omega
    · have := (hT i hi).2.1
      unfold maxLen at this; exact this
    · obtain ⟨b, off, h1, h2⟩ := (hT i hi).2.2 j hj
      exact (h2 c hc).2
end Go.Proofs.Qxb6617202aMods
