/- The small callees of the laws over shareOut. -/
import Derived.Test.Qxb6617202aModsAid
namespace Go.Proofs.Qxb6617202aMods
open Go.RowKit Go.Deep
set_option linter.unusedVariables false

/-- A bool comes back; where it is true, T. -/
def SaysBool (T : Prop) (e : Ending) : Prop := ∃ r : Bool, e = .returned (.bool r) ∧ (r = true → T)

set_option maxHeartbeats 400000 in
set_option maxRecDepth 100000 in
theorem bytes18 (a : Option Addr) (n cap : Nat) (A : Nat → Option Addr) (L C : Nat → Nat) (X : Nat → Nat → Nat → Int) (m : Int) (w : World) (hn : n ≤ 9223372036854775807) (hrd : Rd w a n A L C X) (hL : ∀ i, i < n → L i ≤ 9223372036854775807) :
    Calls Trym.prog 18 #[.slice a n cap, .int .i64 m] w fun e w' => SaysBool True e ∧ w = w' := by
  have HRD : Hid (Rd w a n A L C X) := hrd
  clear hrd
  by_cases hn1 : n ≤ 1048576
  · go_enter Trym.func18, Trym.ntmps18
    go_wp2
    go_loop [5, 6] (fun z p => ∃ (i : Nat) (y : Int), i ≤ n ∧ p = .int .i64 i ∧ z = .int .i64 y ∧ 0 ≤ y ∧ y ≤ 1048576) (fun _ p => n - (intOf p).toNat)
    case atStart => exact ⟨0, n, Nat.zero_le _, rfl, rfl, by omega, by omega⟩
    case round =>
      obtain ⟨i, y, hi, rfl, rfl, hy0, hy1⟩ := hrel
      by_cases hlt : i < n
      · obtain ⟨b, off, rfl, hc⟩ := HRD.out.outer i hlt
        have hLi := hL i hlt
        by_cases h1 : L i ≤ 1048576
        · by_cases h2 : y + (L i : Int) ≤ 1048576
          · go_wp2
            go_round
            case rel => exact ⟨i + 1, y + L i, by omega, by go_num, rfl, by omega, by omega⟩
            case measure => simp [intOf]; omega
          · go_wp2
            go_ret
            exact ⟨⟨_, rfl, fun _ => trivial⟩, rfl⟩
        · go_wp2
          go_ret
          exact ⟨⟨_, rfl, fun _ => trivial⟩, rfl⟩
      · go_wp2
        go_ret
        exact ⟨⟨_, rfl, fun _ => trivial⟩, rfl⟩
  · go_enter Trym.func18, Trym.ntmps18
    go_wp2
    go_ret
    exact ⟨⟨_, rfl, fun _ => trivial⟩, rfl⟩

set_option maxHeartbeats 400000 in
set_option maxRecDepth 100000 in
theorem bytes7 (a : Option Addr) (n cap : Nat) (A : Nat → Option Addr) (L C : Nat → Nat) (X : Nat → Nat → Nat → Int) (m : Int) (w : World) (hn : n ≤ 9223372036854775807) (hrd : Rd w a n A L C X) (hL : ∀ i, i < n → L i ≤ 9223372036854775807) :
    Calls Trym.prog 7 #[.slice a n cap, .int .i64 m] w fun e w' => SaysBool True e ∧ w = w' := by
  have HRD : Hid (Rd w a n A L C X) := hrd
  clear hrd
  by_cases hn1 : n ≤ 1048576
  · go_enter Trym.func7, Trym.ntmps7
    go_wp2
    go_loop [5, 6] (fun z p => ∃ (i : Nat) (y : Int), i ≤ n ∧ p = .int .i64 i ∧ z = .int .i64 y ∧ 0 ≤ y ∧ y ≤ 1048576) (fun _ p => n - (intOf p).toNat)
    case atStart => exact ⟨0, n, Nat.zero_le _, rfl, rfl, by omega, by omega⟩
    case round =>
      obtain ⟨i, y, hi, rfl, rfl, hy0, hy1⟩ := hrel
      by_cases hlt : i < n
      · obtain ⟨b, off, rfl, hc⟩ := HRD.out.outer i hlt
        have hLi := hL i hlt
        by_cases h1 : L i ≤ 1048576
        · by_cases h2 : y + (L i : Int) ≤ 1048576
          · go_wp2
            go_round
            case rel => exact ⟨i + 1, y + L i, by omega, by go_num, rfl, by omega, by omega⟩
            case measure => simp [intOf]; omega
          · go_wp2
            go_ret
            exact ⟨⟨_, rfl, fun _ => trivial⟩, rfl⟩
        · go_wp2
          go_ret
          exact ⟨⟨_, rfl, fun _ => trivial⟩, rfl⟩
      · go_wp2
        go_ret
        exact ⟨⟨_, rfl, fun _ => trivial⟩, rfl⟩
  · go_enter Trym.func7, Trym.ntmps7
    go_wp2
    go_ret
    exact ⟨⟨_, rfl, fun _ => trivial⟩, rfl⟩

def FitsP (n : Nat) (L : Nat → Nat) : Prop := n ≤ 4096 ∧ ∀ i, i < n → L i ≤ 65536

set_option maxHeartbeats 400000 in
set_option maxRecDepth 100000 in
theorem fits8 (a : Option Addr) (n cap : Nat) (A : Nat → Option Addr) (L C : Nat → Nat) (X : Nat → Nat → Nat → Int) (w : World) (hn : n ≤ 9223372036854775807) (hrd : Rd w a n A L C X) (hL : ∀ i, i < n → L i ≤ 9223372036854775807) :
    Calls Trym.prog 8 #[.slice a n cap] w fun e w' => SaysBool (FitsP n L) e ∧ w = w' := by
  have HRD : Hid (Rd w a n A L C X) := hrd
  clear hrd
  by_cases hn1 : n ≤ 4096
  · go_enter Trym.func8, Trym.ntmps8
    go_wp2
    go_loop [3, 4] (fun z p => ∃ (i : Nat) (y : Int), i ≤ n ∧ p = .int .i64 i ∧ z = .int .i64 y ∧ 0 ≤ y ∧ y ≤ 1048576 ∧ Hid (∀ i', i' < i → L i' ≤ 65536)) (fun _ p => n - (intOf p).toNat)
    case atStart => exact ⟨0, 24 * n, Nat.zero_le _, rfl, rfl, by omega, by omega, fun i' h => absurd h (Nat.not_lt_zero _)⟩
    case round =>
      obtain ⟨i, y, hi, rfl, rfl, hy0, hy1, HLs⟩ := hrel
      by_cases hlt : i < n
      · obtain ⟨b, off, rfl, hc⟩ := HRD.out.outer i hlt
        have hLi := hL i hlt
        by_cases h1 : L i ≤ 65536
        · by_cases h2 : y + 24 * (L i : Int) ≤ 1048576
          · go_wp2
            go_round
            case rel =>
              refine ⟨i + 1, y + 24 * L i, by omega, by go_num, rfl, by omega, by omega, fun i' hi' => ?_⟩
              by_cases e : i' = i
              · subst e; exact h1
              · exact HLs.out i' (by omega)
            case measure => simp [intOf]; omega
          · go_wp2
            go_ret
            exact ⟨⟨_, rfl, fun h => by cases h⟩, rfl⟩
        · go_wp2
          go_ret
          exact ⟨⟨_, rfl, fun h => by cases h⟩, rfl⟩
      · have hie : i = n := by omega
        subst hie
        go_wp2
        go_ret
        exact ⟨⟨_, rfl, fun _ => ⟨hn1, HLs.out⟩⟩, rfl⟩
  · go_enter Trym.func8, Trym.ntmps8
    go_wp2
    go_ret
    exact ⟨⟨_, rfl, fun h => by cases h⟩, rfl⟩

theorem ret_int {k : IntKind} {a b : Int} (h : a = b) : Ending.returned (.int k a) = .returned (.int k b) := by rw [h]
theorem clamp19 (m : Int) (t : Nat) (w : World) (ht : t ≤ 9223372036854775807) : Calls Trym.prog 19 #[.int .i64 m, .int .i64 t] w fun e w' => e = .returned (.int .i64 (clampZ m t)) ∧ w = w' := by
  by_cases h1 : m < 0
  · have H : Hid (0 = clampZ m t) := by unfold clampZ; rw [if_pos h1]; exact rfl
    go_enter Trym.func19, Trym.ntmps19
    go_wp2
    go_ret
    exact ⟨ret_int H.out, rfl⟩
  · by_cases h2 : (t : Int) < m
    · have H : Hid ((t : Int) = clampZ m t) := by unfold clampZ; rw [if_neg h1, if_pos h2]; exact rfl
      go_enter Trym.func19, Trym.ntmps19
      go_wp2
      go_ret
      exact ⟨ret_int H.out, rfl⟩
    · have H : Hid (m = clampZ m t) := by unfold clampZ; rw [if_neg h1, if_neg h2]; exact rfl
      go_enter Trym.func19, Trym.ntmps19
      go_wp2
      go_ret
      exact ⟨ret_int H.out, rfl⟩
end Go.Proofs.Qxb6617202aMods
