/- Plain facts on merging sorted rows: no Go in sight. -/
import Derived.WalkKit
namespace Go.Proofs.Qxb6617202aMods
set_option linter.unusedVariables false

/-- S is sorted from lo to hi. -/
def SortedOn (S : Nat → Int) (lo hi : Nat) : Prop := ∀ i j, lo ≤ i → i ≤ j → j < hi → S i ≤ S j
/-- x stands in S somewhere from lo to hi. -/
def In (S : Nat → Int) (lo hi : Nat) (x : Int) : Prop := ∃ i, lo ≤ i ∧ i < hi ∧ S i = x

/-- Merging [lo, mid) and [mid, hi) of S into D: i, j stand in the two, k = lo + (i - lo) + (j - mid) cells of D are laid. -/
structure Merging (S D : Nat → Int) (lo mid hi i j k : Nat) : Prop where
  b1 : lo ≤ i
  b2 : i ≤ mid
  b3 : mid ≤ j
  b4 : j ≤ hi
  bk : k + mid = i + j
  so : SortedOn D lo k
  lei : ∀ p q, lo ≤ p → p < k → i ≤ q → q < mid → D p ≤ S q
  lej : ∀ p q, lo ≤ p → p < k → j ≤ q → q < hi → D p ≤ S q
  mem : ∀ x, In D lo k x ↔ (In S lo i x ∨ In S mid j x)

theorem Merging.start {S D : Nat → Int} {lo mid hi : Nat} (h1 : lo ≤ mid) (h2 : mid ≤ hi) : Merging S D lo mid hi lo mid lo :=
  ⟨Nat.le_refl _, h1, Nat.le_refl _, h2, by omega, fun i j h h' h'' => by omega, fun p q h h' => by omega, fun p q h h' => by omega, fun x => by
    constructor
    · rintro ⟨i, h, h', _⟩; omega
    · rintro (⟨i, h, h', _⟩ | ⟨i, h, h', _⟩) <;> omega⟩

/-- One cell more of D. -/
def setf (D : Nat → Int) (k : Nat) (v : Int) : Nat → Int := fun i => if i = k then v else D i
theorem setf_same (D : Nat → Int) (k : Nat) (v : Int) : setf D k v k = v := by simp [setf]
theorem setf_lt (D : Nat → Int) {k i : Nat} (v : Int) (h : i < k) : setf D k v i = D i := by simp [setf]; omega

theorem In_succ {S : Nat → Int} {lo i : Nat} (h : lo ≤ i) (x : Int) : In S lo (i + 1) x ↔ (In S lo i x ∨ S i = x) := by
  constructor
  · rintro ⟨p, h1, h2, e⟩
    by_cases hp : p = i
    · subst hp; exact .inr e
    · exact .inl ⟨p, h1, by omega, e⟩
  · rintro (⟨p, h1, h2, e⟩ | e)
    · exact ⟨p, h1, by omega, e⟩
    · exact ⟨i, h, by omega, e⟩
theorem In_congr {S S' : Nat → Int} {lo hi : Nat} (h : ∀ i, lo ≤ i → i < hi → S i = S' i) (x : Int) : In S lo hi x ↔ In S' lo hi x := by
  constructor
  · rintro ⟨p, h1, h2, e⟩; exact ⟨p, h1, h2, by rw [← h p h1 h2]; exact e⟩
  · rintro ⟨p, h1, h2, e⟩; exact ⟨p, h1, h2, by rw [h p h1 h2]; exact e⟩

theorem In_setf {D : Nat → Int} {lo k : Nat} (h : lo ≤ k) (v x : Int) : In (setf D k v) lo (k + 1) x ↔ (In D lo k x ∨ v = x) := by
  rw [In_succ h, setf_same, In_congr (S := setf D k v) (S' := D) (fun i _ h2 => setf_lt D v h2)]

theorem Merging.takeI {S D : Nat → Int} {lo mid hi i j k : Nat} (h : Merging S D lo mid hi i j k) (hs : SortedOn S lo mid) (hi' : i < mid) (hle : ∀ q, j ≤ q → q < hi → S i ≤ S q) :
    Merging S (setf D k (S i)) lo mid hi (i + 1) j (k + 1) := by
  obtain ⟨b1, b2, b3, b4, bk, so, lei, lej, mem⟩ := h
  refine ⟨by omega, hi', b3, b4, by omega, ?_, ?_, ?_, ?_⟩
  · intro p q h1 h2 h3
    by_cases hq : q = k
    · subst hq
      rw [setf_same]
      by_cases hp : p = q
      · subst hp; rw [setf_same]; exact Int.le_refl _
      · rw [setf_lt D _ (by omega)]
        exact lei p i h1 (by omega) (Nat.le_refl _) hi'
    · rw [setf_lt D _ (show q < k by omega), setf_lt D _ (show p < k by omega)]
      exact so p q h1 h2 (by omega)
  · intro p q h1 h2 h3 h4
    by_cases hp : p = k
    · subst hp; rw [setf_same]; exact hs i q b1 (by omega) h4
    · rw [setf_lt D _ (show p < k by omega)]
      exact lei p q h1 (by omega) (by omega) h4
  · intro p q h1 h2 h3 h4
    by_cases hp : p = k
    · subst hp; rw [setf_same]; exact hle q h3 h4
    · rw [setf_lt D _ (show p < k by omega)]
      exact lej p q h1 (by omega) h3 h4
  · intro x
    rw [In_setf (by omega), mem x, In_succ b1]
    constructor
    · rintro ((h | h) | h)
      · exact .inl (.inl h)
      · exact .inr h
      · exact .inl (.inr h)
    · rintro ((h | h) | h)
      · exact .inl (.inl h)
      · exact .inr h
      · exact .inl (.inr h)

theorem Merging.takeJ {S D : Nat → Int} {lo mid hi i j k : Nat} (h : Merging S D lo mid hi i j k) (hs : SortedOn S mid hi) (hj' : j < hi) (hle : ∀ q, i ≤ q → q < mid → S j ≤ S q) :
    Merging S (setf D k (S j)) lo mid hi i (j + 1) (k + 1) := by
  obtain ⟨b1, b2, b3, b4, bk, so, lei, lej, mem⟩ := h
  refine ⟨b1, b2, by omega, hj', by omega, ?_, ?_, ?_, ?_⟩
  · intro p q h1 h2 h3
    by_cases hq : q = k
    · subst hq
      rw [setf_same]
      by_cases hp : p = q
      · subst hp; rw [setf_same]; exact Int.le_refl _
      · rw [setf_lt D _ (by omega)]
        exact lej p j h1 (by omega) (Nat.le_refl _) hj'
    · rw [setf_lt D _ (show q < k by omega), setf_lt D _ (show p < k by omega)]
      exact so p q h1 h2 (by omega)
  · intro p q h1 h2 h3 h4
    by_cases hp : p = k
    · subst hp; rw [setf_same]; exact hle q h3 h4
    · rw [setf_lt D _ (show p < k by omega)]
      exact lei p q h1 (by omega) h3 h4
  · intro p q h1 h2 h3 h4
    by_cases hp : p = k
    · subst hp; rw [setf_same]; exact hs j q b3 (by omega) h4
    · rw [setf_lt D _ (show p < k by omega)]
      exact lej p q h1 (by omega) (by omega) h4
  · intro x
    rw [In_setf (by omega), mem x, In_succ b3]
    constructor
    · rintro ((h | h) | h)
      · exact .inl h
      · exact .inr (.inl h)
      · exact .inr (.inr h)
    · rintro (h | (h | h))
      · exact .inl (.inl h)
      · exact .inl (.inr h)
      · exact .inr h

theorem In_split {S : Nat → Int} {lo mid hi : Nat} (h1 : lo ≤ mid) (h2 : mid ≤ hi) (x : Int) : In S lo hi x ↔ (In S lo mid x ∨ In S mid hi x) := by
  constructor
  · rintro ⟨p, a, b, e⟩
    by_cases hp : p < mid
    · exact .inl ⟨p, a, hp, e⟩
    · exact .inr ⟨p, by omega, b, e⟩
  · rintro (⟨p, a, b, e⟩ | ⟨p, a, b, e⟩)
    · exact ⟨p, a, by omega, e⟩
    · exact ⟨p, by omega, b, e⟩

/-- Every run of 'wd' cells that starts at a multiple of wd is sorted, up to n. -/
def Runs (S : Nat → Int) (wd n : Nat) : Prop := ∀ c, SortedOn S (c * wd) (min (c * wd + wd) n)

theorem Runs.one (S : Nat → Int) (n : Nat) : Runs S 1 n := by
  intro c i j h1 h2 h3
  have : i = j := by omega
  rw [this]; exact Int.le_refl _
theorem Runs.all {S : Nat → Int} {wd n : Nat} (h : Runs S wd n) (hw : n ≤ wd) : SortedOn S 0 n := by
  have := h 0
  simp only [Nat.zero_mul, Nat.zero_add] at this
  rwa [Nat.min_eq_right hw] at this

/-- A pass at width wd under way: the first c pairs of runs have been merged into D. -/
structure Pass (S D : Nat → Int) (wd n c : Nat) : Prop where
  so : ∀ c', c' < c → SortedOn D (c' * (2 * wd)) (min (c' * (2 * wd) + 2 * wd) n)
  mem : ∀ x, In D 0 (min (c * (2 * wd)) n) x ↔ In S 0 (min (c * (2 * wd)) n) x

theorem Pass.start (S D : Nat → Int) (wd n : Nat) : Pass S D wd n 0 := by
  refine ⟨fun c' h => by omega, fun x => ?_⟩
  simp only [Nat.zero_mul, Nat.zero_min]
  constructor <;> rintro ⟨i, h, h', _⟩ <;> omega

/-- A pair of runs merged. -/
theorem Pass.step {S D D' : Nat → Int} {wd n c : Nat} (h : Pass S D wd n c) (hlo : c * (2 * wd) < n) (hsame : ∀ i, i < c * (2 * wd) → D' i = D i)
    (hm : Merging S D' (c * (2 * wd)) (min (c * (2 * wd) + wd) n) (min (c * (2 * wd) + 2 * wd) n) (min (c * (2 * wd) + wd) n) (min (c * (2 * wd) + 2 * wd) n) (min (c * (2 * wd) + 2 * wd) n)) : Pass S D' wd n (c + 1) := by
  have hc : (c + 1) * (2 * wd) = c * (2 * wd) + 2 * wd := Nat.succ_mul _ _
  refine ⟨fun c' hc' => ?_, fun x => ?_⟩
  · by_cases e : c' = c
    · subst e; exact hm.so
    · have h1 := h.so c' (by omega)
      have h2 : c' * (2 * wd) + 2 * wd ≤ c * (2 * wd) := by
        rw [← Nat.succ_mul]
        exact Nat.mul_le_mul_right _ (by omega)
      intro i j a b d
      rw [hsame i (by omega), hsame j (by omega)]
      exact h1 i j a b d
  · rw [hc, In_split (S := D') (lo := 0) (mid := c * (2 * wd)) (by omega) (by omega), In_split (S := S) (lo := 0) (mid := c * (2 * wd)) (by omega) (by omega)]
    have e1 := h.mem x
    rw [Nat.min_eq_left (Nat.le_of_lt hlo)] at e1
    rw [In_congr (S := D') (S' := D) (fun i _ h2 => hsame i h2), e1, hm.mem x, ← In_split (S := S) (lo := c * (2 * wd)) (by omega) (by omega)]

theorem Pass.done {S D : Nat → Int} {wd n c : Nat} (h : Pass S D wd n c) (hw : 1 ≤ wd) (hn : n ≤ c * (2 * wd)) : Runs D (2 * wd) n ∧ ∀ x, In D 0 n x ↔ In S 0 n x := by
  constructor
  · intro c'
    by_cases hc : c' < c
    · exact h.so c' hc
    · intro i j h1 h2 h3
      have : c * (2 * wd) ≤ c' * (2 * wd) := Nat.mul_le_mul_right _ (by omega)
      omega
  · have := h.mem
    rwa [Nat.min_eq_right hn] at this
end Go.Proofs.Qxb6617202aMods
