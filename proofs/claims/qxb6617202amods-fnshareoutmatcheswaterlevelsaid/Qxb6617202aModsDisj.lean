/- 'zzDisjoint': the walk. -/
import Derived.Test.Qxb6617202aModsSort
namespace Go.Proofs.Qxb6617202aMods
open Go.RowKit Go.Deep
set_option linter.unusedVariables false

/-- What 'zzDisjoint' answers: whether the two rows have no value in common. -/
def DisjPost (n1 n2 : Nat) (S1 S2 : Nat → Int) (w : World) (e : Ending) (w' : World) : Prop :=
  ∃ (r : Bool) (m : Nat), e = .returned (.bool r) ∧ w' = w.drewN m ∧ (r = true ↔ ∀ x, In S1 0 n1 x → ¬ In S2 0 n2 x)

/-- Whatever the two rows have in common lies behind i and j. -/
def Behind (n1 n2 : Nat) (S1 S2 : Nat → Int) (i j : Nat) : Prop := ∀ x, In S1 0 n1 x → In S2 0 n2 x → In S1 i n1 x ∧ In S2 j n2 x

theorem Behind.stepI {n1 n2 i j : Nat} {S1 S2 : Nat → Int} (h : Behind n1 n2 S1 S2 i j) (h2 : SortedOn S2 0 n2) (hlt : S1 i < S2 j) : Behind n1 n2 S1 S2 (i + 1) j := by
  intro x hx hy
  obtain ⟨⟨p, p1, p2, p3⟩, ⟨q, q1, q2, q3⟩⟩ := h x hx hy
  refine ⟨⟨p, ?_, p2, p3⟩, ⟨q, q1, q2, q3⟩⟩
  by_cases e : p = i
  · subst e
    have := h2 j q (Nat.zero_le _) q1 q2
    omega
  · omega
theorem Behind.stepJ {n1 n2 i j : Nat} {S1 S2 : Nat → Int} (h : Behind n1 n2 S1 S2 i j) (h1 : SortedOn S1 0 n1) (hlt : S2 j < S1 i) : Behind n1 n2 S1 S2 i (j + 1) := by
  intro x hx hy
  obtain ⟨⟨p, p1, p2, p3⟩, ⟨q, q1, q2, q3⟩⟩ := h x hx hy
  refine ⟨⟨p, p1, p2, p3⟩, ⟨q, ?_, q2, q3⟩⟩
  by_cases e : q = j
  · subst e
    have := h1 i p (Nat.zero_le _) p1 p2
    omega
  · omega

set_option maxHeartbeats 2000000 in
set_option maxRecDepth 100000 in
theorem disj11 (ga gb n1 n2 : Nat) (S1 S2 : Nat → Int) (w : World) (hn1 : n1 ≤ 268435456) (hn2 : n2 ≤ 268435456) (h1 : Row w ga n1 S1) (h2 : Row w gb n2 S2) (hs1 : SortedOn S1 0 n1) (hs2 : SortedOn S2 0 n2) :
    Calls Trym.prog 11 #[.slice (some ⟨ga, 0, none⟩) n1 n1, .slice (some ⟨gb, 0, none⟩) n2 n2] w fun e w' => DisjPost n1 n2 S1 S2 w e w' := by
  have H1 : Hid (Row w ga n1 S1) := h1
  have H2 : Hid (Row w gb n2 S2) := h2
  have HS1 : Hid (SortedOn S1 0 n1) := hs1
  have HS2 : Hid (SortedOn S2 0 n2) := hs2
  clear h1 h2 hs1 hs2
  go_enter Trym.func11, Trym.ntmps11
  go_wp2_with fail
  go_loopw [5, 6] (fun v5 v6 wr => ∃ (i j m : Nat), v5 = .int .i64 i ∧ v6 = .int .i64 j ∧ wr = w.drewN m ∧ i ≤ n1 ∧ j ≤ n2 ∧ Hid (Behind n1 n2 S1 S2 i j))
    (fun v5 v6 _ => (n1 - (intOf v5).toNat) + (n2 - (intOf v6).toNat))
  case atStart => exact ⟨0, 0, 0, rfl, rfl, rfl, Nat.zero_le _, Nat.zero_le _, fun x a b => ⟨a, b⟩⟩
  case round =>
    obtain ⟨i, j, m, rfl, rfl, rfl, hi, hj, HBe⟩ := hrel
    by_cases hc1 : i < n1
    · by_cases hc2 : j < n2
      · have ci := World.rowIs.cell (w := w) H1.out (i := i) (by omega)
        have cj := World.rowIs.cell (w := w) H2.out (i := j) (by omega)
        have q1 : (i : Int) < (n1 : Int) := by omega
        have q2 : (j : Int) < (n2 : Int) := by omega
        by_cases heq : S1 i = S2 j
        · have HN : Hid (¬ ∀ x, In S1 0 n1 x → ¬ In S2 0 n2 x) := fun h => h (S1 i) ⟨i, Nat.zero_le _, hc1, rfl⟩ ⟨j, Nat.zero_le _, hc2, heq.symm⟩
          go_wp2_with fail
          go_quiet (fail)
          go_wp2_with fail
          go_ret
          exact ⟨false, _, rfl, World.drewN_drewN _ _ _, ⟨fun h => absurd h (by simp), fun h => absurd h HN.out⟩⟩
        · by_cases hlt : S1 i < S2 j
          · have HB2 : Hid (Behind n1 n2 S1 S2 (i + 1) j) := HBe.out.stepI HS2.out hlt
            go_wp2_with fail
            go_quiet (fail)
            go_wp2_with fail
            go_quiet (fail)
            go_wp2_with fail
            go_roundw
            case rel => exact ⟨i + 1, j, _, by go_num, rfl, rfl, by omega, hj, HB2⟩
            case measure => simp [intOf]; omega
          · have HB2 : Hid (Behind n1 n2 S1 S2 i (j + 1)) := HBe.out.stepJ HS1.out (by omega)
            go_wp2_with fail
            go_quiet (fail)
            go_wp2_with fail
            go_quiet (fail)
            go_wp2_with fail
            go_roundw
            case rel => exact ⟨i, j + 1, _, rfl, by go_num, rfl, hi, by omega, HB2⟩
            case measure => simp [intOf]; omega
      · have HT : Hid (∀ x, In S1 0 n1 x → ¬ In S2 0 n2 x) := fun x hx hy => by
          obtain ⟨_, ⟨q, q1, q2, _⟩⟩ := HBe.out x hx hy
          omega
        have hcd : decide ((j : Int) < (n2 : Int)) = false := decide_eq_false (by omega)
        go_wp2_with fail
        go_ret
        exact ⟨true, _, rfl, rfl, ⟨fun _ => HT.out, fun _ => rfl⟩⟩
    · have HT : Hid (∀ x, In S1 0 n1 x → ¬ In S2 0 n2 x) := fun x hx hy => by
        obtain ⟨⟨q, q1, q2, _⟩, _⟩ := HBe.out x hx hy
        omega
      have hcd : decide ((i : Int) < (n1 : Int)) = false := decide_eq_false (by omega)
      go_wp2_with fail
      go_ret
      exact ⟨true, _, rfl, rfl, ⟨fun _ => HT.out, fun _ => rfl⟩⟩
end Go.Proofs.Qxb6617202aMods
