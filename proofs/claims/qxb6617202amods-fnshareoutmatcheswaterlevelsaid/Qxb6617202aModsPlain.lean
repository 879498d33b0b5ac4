/- Plain arithmetic for seat b6617202aM: shares dealt round by round. No Go in sight. -/
import Derived.WalkKit
namespace Go.Proofs.Qxb6617202aMods
set_option linter.unusedVariables false

/-- The sum of the first n. -/
def sumTo : Nat → (Nat → Nat) → Nat
  | 0, _ => 0
  | n + 1, f => sumTo n f + f n

theorem sumTo_congr {f g : Nat → Nat} : ∀ {n : Nat}, (∀ i, i < n → f i = g i) → sumTo n f = sumTo n g
  | 0, _ => rfl
  | n + 1, h => by rw [sumTo, sumTo, sumTo_congr (fun i hi => h i (by omega)), h n (by omega)]

theorem sumTo_le {f g : Nat → Nat} : ∀ {n : Nat}, (∀ i, i < n → f i ≤ g i) → sumTo n f ≤ sumTo n g
  | 0, _ => Nat.le_refl _
  | n + 1, h => by
    have h1 := sumTo_le (n := n) (fun i hi => h i (by omega))
    have h2 := h n (by omega)
    simp only [sumTo]; omega

/-- Two that are comparable and of one sum are one. -/
theorem sumTo_eq {f g : Nat → Nat} : ∀ {n : Nat}, (∀ i, i < n → f i ≤ g i) → sumTo n f = sumTo n g → ∀ i, i < n → f i = g i
  | 0, _, _, i, hi => by omega
  | n + 1, h, e, i, hi => by
    have h1 := sumTo_le (n := n) (fun i hi => h i (by omega))
    have h2 := h n (by omega)
    simp only [sumTo] at e
    rcases Nat.lt_or_ge i n with h3 | h3
    · exact sumTo_eq (n := n) (fun i hi => h i (by omega)) (by omega) i h3
    · have : i = n := by omega
      subst this; omega

theorem sumTo_zero (n : Nat) : sumTo n (fun _ => 0) = 0 := by
  induction n with
  | zero => rfl
  | succ n ih => simp [sumTo, ih]

/-- How many each list has given in round r, when the first q have been asked. -/
def deal (L : Nat → Nat) (r q : Nat) (i : Nat) : Nat := min (L i) (if i < q then r + 1 else r)

theorem deal_le (L : Nat → Nat) (r q i : Nat) : deal L r q i ≤ L i := Nat.min_le_left _ _
theorem deal_start (L : Nat → Nat) (n r : Nat) {i : Nat} (h : i < n) : deal L r n i = deal L (r + 1) 0 i := by simp [deal, h]
theorem deal_mono (L : Nat → Nat) {r q r' q' : Nat} (h : r < r' ∨ (r = r' ∧ q ≤ q')) (i : Nat) : deal L r q i ≤ deal L r' q' i := by
  unfold deal
  split <;> split <;> omega
theorem deal_cmp (L : Nat → Nat) (r q r' q' : Nat) : (∀ i, deal L r q i ≤ deal L r' q' i) ∨ (∀ i, deal L r' q' i ≤ deal L r q i) := by
  rcases Nat.lt_or_ge r r' with h | h
  · exact .inl (deal_mono L (.inl h))
  · rcases Nat.lt_or_ge r' r with h' | h'
    · exact .inr (deal_mono L (.inl h'))
    · have : r = r' := by omega
      subst this
      rcases Nat.le_total q q' with h'' | h''
      · exact .inl (deal_mono L (.inr ⟨rfl, h''⟩))
      · exact .inr (deal_mono L (.inr ⟨rfl, h''⟩))

/-- The next list gives one more. -/
theorem deal_take (L : Nat → Nat) (r q : Nat) (h : r < L q) (i : Nat) : deal L r (q + 1) i = if i = q then deal L r q q + 1 else deal L r q i := by
  unfold deal
  by_cases e : i = q
  · subst e; simp; omega
  · rw [if_neg e]
    have : (i < q + 1) = (i < q) := by simp; omega
    simp only [this]
/-- .. or has no more to give. -/
theorem deal_skip (L : Nat → Nat) (r q : Nat) (h : L q ≤ r) (i : Nat) : deal L r (q + 1) i = deal L r q i := by
  unfold deal
  by_cases e : i = q
  · subst e; simp; omega
  · have : (i < q + 1) = (i < q) := by simp; omega
    simp only [this]
theorem sumTo_deal_take (L : Nat → Nat) (r q n : Nat) (hq : q < n) (h : r < L q) : sumTo n (deal L r (q + 1)) = sumTo n (deal L r q) + 1 := by
  have key : ∀ m, sumTo m (deal L r (q + 1)) = sumTo m (deal L r q) + if q < m then 1 else 0 := by
    intro m
    induction m with
    | zero => simp [sumTo]
    | succ m ih =>
      simp only [sumTo, ih, deal_take L r q h m]
      by_cases e : m = q
      · subst e; simp; omega
      · rw [if_neg e]
        have : (q < m + 1) = (q < m) := by simp; omega
        simp only [this]; omega
  rw [key n, if_pos hq]
theorem sumTo_deal_skip (L : Nat → Nat) (r q n : Nat) (h : L q ≤ r) : sumTo n (deal L r (q + 1)) = sumTo n (deal L r q) := sumTo_congr fun i _ => deal_skip L r q h i

/-- A round in which nobody gives: all is given. -/
theorem deal_done (L : Nat → Nat) (r n : Nat) (h : sumTo n (deal L r n) = sumTo n (deal L r 0)) : ∀ i, i < n → deal L r n i = L i := by
  have e := sumTo_eq (n := n) (f := deal L r 0) (g := deal L r n) (fun i _ => deal_mono L (.inr ⟨rfl, Nat.zero_le _⟩) i) h.symm
  intro i hi
  have := e i hi
  unfold deal at *
  simp [hi] at *
  omega

/-- m held between 0 and t. -/
def clampZ (m : Int) (t : Nat) : Int := if m < 0 then 0 else if (t : Int) < m then t else m

/-- K is how many each list gives when at most m are dealt out, one a list a round. -/
def Fair (n : Nat) (L K : Nat → Nat) (m : Int) : Prop := (∃ r q, q ≤ n ∧ ∀ i, i < n → K i = deal L r q i) ∧ (sumTo n K : Int) = clampZ m (sumTo n L)

theorem Fair.le {n : Nat} {L K : Nat → Nat} {m : Int} (h : Fair n L K m) : ∀ i, i < n → K i ≤ L i := by
  obtain ⟨⟨r, q, _, hK⟩, _⟩ := h
  intro i hi
  rw [hK i hi]
  exact deal_le _ _ _ _

/-- One deal alone is fair. -/
theorem Fair.unique {n : Nat} {L K K' : Nat → Nat} {m : Int} (h : Fair n L K m) (h' : Fair n L K' m) : ∀ i, i < n → K i = K' i := by
  obtain ⟨⟨r, q, _, hK⟩, hs⟩ := h
  obtain ⟨⟨r', q', _, hK'⟩, hs'⟩ := h'
  have e : sumTo n K = sumTo n K' := by omega
  rcases deal_cmp L r q r' q' with c | c
  · exact sumTo_eq (fun i hi => by rw [hK i hi, hK' i hi]; exact c i) e
  · intro i hi
    exact (sumTo_eq (fun i hi => by rw [hK i hi, hK' i hi]; exact c i) e.symm i hi).symm

/-- One more dealt out: nobody gives less. -/
theorem Fair.mono {n : Nat} {L K K' : Nat → Nat} {m m' : Int} (hm : m ≤ m') (h : Fair n L K m) (h' : Fair n L K' m') : ∀ i, i < n → K i ≤ K' i := by
  obtain ⟨⟨r, q, _, hK⟩, hs⟩ := h
  obtain ⟨⟨r', q', _, hK'⟩, hs'⟩ := h'
  have e : sumTo n K ≤ sumTo n K' := by
    unfold clampZ at hs hs'
    split at hs <;> split at hs' <;> (try split at hs) <;> (try split at hs') <;> omega
  rcases deal_cmp L r q r' q' with c | c
  · intro i hi; rw [hK i hi, hK' i hi]; exact c i
  · have c' : ∀ i, i < n → K' i ≤ K i := fun i hi => by rw [hK i hi, hK' i hi]; exact c i
    have e' := sumTo_le c'
    have := sumTo_eq c' (by omega)
    intro i hi
    rw [this i hi]; exact Nat.le_refl _

/-- What was dealt out is dealt out again whole. -/
theorem Fair.again {n : Nat} {L K K' : Nat → Nat} {m : Int} (h : Fair n L K m) (h' : Fair n K K' m) : ∀ i, i < n → K' i = K i := by
  have hs := h.2
  have hs' := h'.2
  refine sumTo_eq h'.le ?_
  have hle := sumTo_le h.le
  unfold clampZ at hs hs'
  split at hs <;> (try split at hs) <;> (try split at hs') <;> (try split at hs') <;> omega

/-- Nobody gives more than one more than one who could give more, and nobody behind him more than he. -/
theorem Fair.fair {n : Nat} {L K : Nat → Nat} {m : Int} (h : Fair n L K m) {i j : Nat} (hi : i < n) (hj : j < n) (hu : K j < L j) : K i ≤ K j + 1 ∧ (j < i → K i ≤ K j) := by
  obtain ⟨⟨r, q, _, hK⟩, _⟩ := h
  rw [hK j hj] at hu ⊢
  rw [hK i hi]
  unfold deal at *
  by_cases hjq : j < q <;> by_cases hiq : i < q <;> simp only [hjq, hiq, if_true, if_false] at hu ⊢ <;> omega
end Go.Proofs.Qxb6617202aMods
