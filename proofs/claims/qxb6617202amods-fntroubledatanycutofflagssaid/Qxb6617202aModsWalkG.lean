/- 'zzBytes' and 'zzEntryFits' of the laws over 'troubled': the walks. -/
import Derived.Test.Qxb6617202aModsWalkF
namespace Go.Proofs.Qxb6617202aMods
open Go.RowKit Go.Deep
set_option linter.unusedVariables false

/-- A bool comes back; where it is true, T. -/
def SaysThat (T : Prop) (e : Ending) : Prop := ∃ r : Bool, e = .returned (.bool r) ∧ (r = true → T)

set_option maxHeartbeats 2000000 in
set_option maxRecDepth 100000 in
theorem bytes13 (s0 s1 s4 : ByteArray) (x2 x5 x9 : Int) (a a7 a8 : Option Addr) (n cap n7 c7 n8 c8 : Nat) (conn : Bool) (F F7 F8 : Nat → ByteArray) (w : World)
    (k0 : s0.size ≤ 9223372036854775807) (k1 : s1.size ≤ 9223372036854775807) (k4 : s4.size ≤ 9223372036854775807) (hn : n ≤ 9223372036854775807) (hn7 : n7 ≤ 9223372036854775807) (hn8 : n8 ≤ 9223372036854775807)
    (hs : Strs w a n F) (hs7 : Strs w a7 n7 F7) (hs8 : Strs w a8 n8 F8) (hF : ∀ i, i < n → (F i).size ≤ 9223372036854775807) (hF7 : ∀ i, i < n7 → (F7 i).size ≤ 9223372036854775807) (hF8 : ∀ i, i < n8 → (F8 i).size ≤ 9223372036854775807) :
    Calls Trym.prog 13 #[.string s0, .string s1, .int .i64 x2, .slice a n cap, .string s4, .int .u64 x5, .bool conn, .slice a7 n7 c7, .slice a8 n8 c8, .int .i64 x9] w fun e w' => SaysThat True e ∧ w = w' := by
  have HS : Hid (Strs w a n F) := hs
  have HS7 : Hid (Strs w a7 n7 F7) := hs7
  have HS8 : Hid (Strs w a8 n8 F8) := hs8
  clear hs hs7 hs8
  go_enter Trym.func13, Trym.ntmps13
  go_wp2_with fail
  any_goals (go_ret; exact ⟨⟨_, rfl, fun _ => trivial⟩, rfl⟩)
  go_loop [21, 22] (fun z p => ∃ (i : Nat) (y : Int), i ≤ n ∧ p = .int .i64 i ∧ z = .int .i64 y ∧ 0 ≤ y ∧ y ≤ 1048576) (fun _ p => n - (intOf p).toNat)
  case atStart => exact ⟨0, _, Nat.zero_le _, rfl, rfl, by omega, by omega⟩
  case round =>
    obtain ⟨i0, y0, hi0, rfl, rfl, hy0, hy1⟩ := hrel
    by_cases hlt : i0 < n
    · obtain ⟨b, off, rfl, hc⟩ := HS.out i0 hlt
      have hFi := hF i0 hlt
      generalize F i0 = f at *
      by_cases h1 : f.size ≤ 1048576
      · by_cases h2 : y0 + (f.size : Int) ≤ 1048576
        · go_wp2_with fail
          go_round
          case rel => exact ⟨i0 + 1, y0 + f.size, by omega, by go_num, rfl, by omega, by omega⟩
          case measure => simp [intOf]; omega
        · go_wp2_with fail
          go_ret
          exact ⟨⟨_, rfl, fun _ => trivial⟩, rfl⟩
      · go_wp2_with fail
        go_ret
        exact ⟨⟨_, rfl, fun _ => trivial⟩, rfl⟩
    · go_wp2_with fail
      any_goals (go_ret; exact ⟨⟨_, rfl, fun _ => trivial⟩, rfl⟩)
      go_loop [21, 23] (fun z p => ∃ (i : Nat) (y : Int), i ≤ n7 ∧ p = .int .i64 i ∧ z = .int .i64 y ∧ 0 ≤ y ∧ y ≤ 1048576) (fun _ p => n7 - (intOf p).toNat)
      case atStart => exact ⟨0, _, Nat.zero_le _, rfl, rfl, by omega, by omega⟩
      case round =>
        obtain ⟨i1, y1, hi1, rfl, rfl, hy0, hy1⟩ := hrel
        by_cases hlt : i1 < n7
        · obtain ⟨b, off, rfl, hc⟩ := HS7.out i1 hlt
          have hFi := hF7 i1 hlt
          generalize F7 i1 = f at *
          by_cases h1 : f.size ≤ 1048576
          · by_cases h2 : y1 + (f.size : Int) ≤ 1048576
            · go_wp2_with fail
              go_round
              case rel => exact ⟨i1 + 1, y1 + f.size, by omega, by go_num, rfl, by omega, by omega⟩
              case measure => simp [intOf]; omega
            · go_wp2_with fail
              go_ret
              exact ⟨⟨_, rfl, fun _ => trivial⟩, rfl⟩
          · go_wp2_with fail
            go_ret
            exact ⟨⟨_, rfl, fun _ => trivial⟩, rfl⟩
        · go_wp2_with fail
          any_goals (go_ret; exact ⟨⟨_, rfl, fun _ => trivial⟩, rfl⟩)
          go_loop [21, 24] (fun z p => ∃ (i : Nat) (y : Int), i ≤ n8 ∧ p = .int .i64 i ∧ z = .int .i64 y ∧ 0 ≤ y ∧ y ≤ 1048576) (fun _ p => n8 - (intOf p).toNat)
          case atStart => exact ⟨0, _, Nat.zero_le _, rfl, rfl, by omega, by omega⟩
          case round =>
            obtain ⟨i2, y2, hi2, rfl, rfl, hy0, hy1⟩ := hrel
            by_cases hlt : i2 < n8
            · obtain ⟨b, off, rfl, hc⟩ := HS8.out i2 hlt
              have hFi := hF8 i2 hlt
              generalize F8 i2 = f at *
              by_cases h1 : f.size ≤ 1048576
              · by_cases h2 : y2 + (f.size : Int) ≤ 1048576
                · go_wp2_with fail
                  go_round
                  case rel => exact ⟨i2 + 1, y2 + f.size, by omega, by go_num, rfl, by omega, by omega⟩
                  case measure => simp [intOf]; omega
                · go_wp2_with fail
                  go_ret
                  exact ⟨⟨_, rfl, fun _ => trivial⟩, rfl⟩
              · go_wp2_with fail
                go_ret
                exact ⟨⟨_, rfl, fun _ => trivial⟩, rfl⟩
            · go_wp2_with fail
              go_ret
              exact ⟨⟨_, rfl, fun _ => trivial⟩, rfl⟩

set_option maxHeartbeats 2000000 in
set_option maxRecDepth 100000 in
theorem bytes17 (s0 s1 s4 : ByteArray) (x2 x5 x9 x10 : Int) (a a7 a8 : Option Addr) (n cap n7 c7 n8 c8 : Nat) (conn : Bool) (F F7 F8 : Nat → ByteArray) (w : World)
    (k0 : s0.size ≤ 9223372036854775807) (k1 : s1.size ≤ 9223372036854775807) (k4 : s4.size ≤ 9223372036854775807) (hn : n ≤ 9223372036854775807) (hn7 : n7 ≤ 9223372036854775807) (hn8 : n8 ≤ 9223372036854775807)
    (hs : Strs w a n F) (hs7 : Strs w a7 n7 F7) (hs8 : Strs w a8 n8 F8) (hF : ∀ i, i < n → (F i).size ≤ 9223372036854775807) (hF7 : ∀ i, i < n7 → (F7 i).size ≤ 9223372036854775807) (hF8 : ∀ i, i < n8 → (F8 i).size ≤ 9223372036854775807) :
    Calls Trym.prog 17 #[.string s0, .string s1, .int .i64 x2, .slice a n cap, .string s4, .int .u64 x5, .bool conn, .slice a7 n7 c7, .slice a8 n8 c8, .int .i64 x9, .int .i64 x10] w fun e w' => SaysThat True e ∧ w = w' := by
  have HS : Hid (Strs w a n F) := hs
  have HS7 : Hid (Strs w a7 n7 F7) := hs7
  have HS8 : Hid (Strs w a8 n8 F8) := hs8
  clear hs hs7 hs8
  go_enter Trym.func17, Trym.ntmps17
  go_wp2_with fail
  any_goals (go_ret; exact ⟨⟨_, rfl, fun _ => trivial⟩, rfl⟩)
  go_loop [23, 24] (fun z p => ∃ (i : Nat) (y : Int), i ≤ n ∧ p = .int .i64 i ∧ z = .int .i64 y ∧ 0 ≤ y ∧ y ≤ 1048576) (fun _ p => n - (intOf p).toNat)
  case atStart => exact ⟨0, _, Nat.zero_le _, rfl, rfl, by omega, by omega⟩
  case round =>
    obtain ⟨i0, y0, hi0, rfl, rfl, hy0, hy1⟩ := hrel
    by_cases hlt : i0 < n
    · obtain ⟨b, off, rfl, hc⟩ := HS.out i0 hlt
      have hFi := hF i0 hlt
      generalize F i0 = f at *
      by_cases h1 : f.size ≤ 1048576
      · by_cases h2 : y0 + (f.size : Int) ≤ 1048576
        · go_wp2_with fail
          go_round
          case rel => exact ⟨i0 + 1, y0 + f.size, by omega, by go_num, rfl, by omega, by omega⟩
          case measure => simp [intOf]; omega
        · go_wp2_with fail
          go_ret
          exact ⟨⟨_, rfl, fun _ => trivial⟩, rfl⟩
      · go_wp2_with fail
        go_ret
        exact ⟨⟨_, rfl, fun _ => trivial⟩, rfl⟩
    · go_wp2_with fail
      any_goals (go_ret; exact ⟨⟨_, rfl, fun _ => trivial⟩, rfl⟩)
      go_loop [23, 25] (fun z p => ∃ (i : Nat) (y : Int), i ≤ n7 ∧ p = .int .i64 i ∧ z = .int .i64 y ∧ 0 ≤ y ∧ y ≤ 1048576) (fun _ p => n7 - (intOf p).toNat)
      case atStart => exact ⟨0, _, Nat.zero_le _, rfl, rfl, by omega, by omega⟩
      case round =>
        obtain ⟨i1, y1, hi1, rfl, rfl, hy0, hy1⟩ := hrel
        by_cases hlt : i1 < n7
        · obtain ⟨b, off, rfl, hc⟩ := HS7.out i1 hlt
          have hFi := hF7 i1 hlt
          generalize F7 i1 = f at *
          by_cases h1 : f.size ≤ 1048576
          · by_cases h2 : y1 + (f.size : Int) ≤ 1048576
            · go_wp2_with fail
              go_round
              case rel => exact ⟨i1 + 1, y1 + f.size, by omega, by go_num, rfl, by omega, by omega⟩
              case measure => simp [intOf]; omega
            · go_wp2_with fail
              go_ret
              exact ⟨⟨_, rfl, fun _ => trivial⟩, rfl⟩
          · go_wp2_with fail
            go_ret
            exact ⟨⟨_, rfl, fun _ => trivial⟩, rfl⟩
        · go_wp2_with fail
          any_goals (go_ret; exact ⟨⟨_, rfl, fun _ => trivial⟩, rfl⟩)
          go_loop [23, 26] (fun z p => ∃ (i : Nat) (y : Int), i ≤ n8 ∧ p = .int .i64 i ∧ z = .int .i64 y ∧ 0 ≤ y ∧ y ≤ 1048576) (fun _ p => n8 - (intOf p).toNat)
          case atStart => exact ⟨0, _, Nat.zero_le _, rfl, rfl, by omega, by omega⟩
          case round =>
            obtain ⟨i2, y2, hi2, rfl, rfl, hy0, hy1⟩ := hrel
            by_cases hlt : i2 < n8
            · obtain ⟨b, off, rfl, hc⟩ := HS8.out i2 hlt
              have hFi := hF8 i2 hlt
              generalize F8 i2 = f at *
              by_cases h1 : f.size ≤ 1048576
              · by_cases h2 : y2 + (f.size : Int) ≤ 1048576
                · go_wp2_with fail
                  go_round
                  case rel => exact ⟨i2 + 1, y2 + f.size, by omega, by go_num, rfl, by omega, by omega⟩
                  case measure => simp [intOf]; omega
                · go_wp2_with fail
                  go_ret
                  exact ⟨⟨_, rfl, fun _ => trivial⟩, rfl⟩
              · go_wp2_with fail
                go_ret
                exact ⟨⟨_, rfl, fun _ => trivial⟩, rfl⟩
            · go_wp2_with fail
              go_ret
              exact ⟨⟨_, rfl, fun _ => trivial⟩, rfl⟩

def FitsT (n n7 n8 : Nat) : Prop := n ≤ 65536 ∧ n7 ≤ 65536 ∧ n8 ≤ 65536

set_option maxHeartbeats 2000000 in
set_option maxRecDepth 100000 in
theorem fits14 (s0 s1 s4 : ByteArray) (a a7 a8 : Option Addr) (n cap n7 c7 n8 c8 : Nat) (F F7 F8 : Nat → ByteArray) (w : World)
    (k0 : s0.size ≤ 9223372036854775807) (k1 : s1.size ≤ 9223372036854775807) (k4 : s4.size ≤ 9223372036854775807) (hn : n ≤ 9223372036854775807) (hn7 : n7 ≤ 9223372036854775807) (hn8 : n8 ≤ 9223372036854775807)
    (hs : Strs w a n F) (hs7 : Strs w a7 n7 F7) (hs8 : Strs w a8 n8 F8) (hF : ∀ i, i < n → (F i).size ≤ 9223372036854775807) (hF7 : ∀ i, i < n7 → (F7 i).size ≤ 9223372036854775807) (hF8 : ∀ i, i < n8 → (F8 i).size ≤ 9223372036854775807) :
    Calls Trym.prog 14 #[.string s0, .string s1, .slice a n cap, .string s4, .slice a7 n7 c7, .slice a8 n8 c8] w fun e w' => SaysThat (FitsT n n7 n8) e ∧ w = w' := by
  have HS : Hid (Strs w a n F) := hs
  have HS7 : Hid (Strs w a7 n7 F7) := hs7
  have HS8 : Hid (Strs w a8 n8 F8) := hs8
  clear hs hs7 hs8
  by_cases g0 : s0.size ≤ 1048576
  case neg =>
    go_enter Trym.func14, Trym.ntmps14
    go_wp2_with fail
    go_ret
    exact ⟨⟨_, rfl, fun h => by cases h⟩, rfl⟩
  by_cases g1 : s1.size ≤ 1048576
  case neg =>
    go_enter Trym.func14, Trym.ntmps14
    go_wp2_with fail
    go_ret
    exact ⟨⟨_, rfl, fun h => by cases h⟩, rfl⟩
  by_cases g4 : s4.size ≤ 1048576
  case neg =>
    go_enter Trym.func14, Trym.ntmps14
    go_wp2_with fail
    go_ret
    exact ⟨⟨_, rfl, fun h => by cases h⟩, rfl⟩
  by_cases m0 : n ≤ 65536
  case neg =>
    go_enter Trym.func14, Trym.ntmps14
    go_wp2_with fail
    go_ret
    exact ⟨⟨_, rfl, fun h => by cases h⟩, rfl⟩
  by_cases m7 : n7 ≤ 65536
  case neg =>
    go_enter Trym.func14, Trym.ntmps14
    go_wp2_with fail
    go_ret
    exact ⟨⟨_, rfl, fun h => by cases h⟩, rfl⟩
  by_cases m8 : n8 ≤ 65536
  case neg =>
    go_enter Trym.func14, Trym.ntmps14
    go_wp2_with fail
    go_ret
    exact ⟨⟨_, rfl, fun h => by cases h⟩, rfl⟩
  have HT : Hid (FitsT n n7 n8) := ⟨m0, m7, m8⟩
  go_enter Trym.func14, Trym.ntmps14
  go_wp2_with fail
  any_goals (go_ret; exact ⟨⟨_, rfl, fun h => by cases h⟩, rfl⟩)
  go_loop [13, 68] (fun z p => ∃ (i : Nat) (y : Int), i ≤ n ∧ p = .int .i64 i ∧ z = .int .i64 y ∧ 0 ≤ y ∧ y ≤ 1048576) (fun _ p => n - (intOf p).toNat)
  case atStart => exact ⟨0, _, Nat.zero_le _, rfl, rfl, by omega, by omega⟩
  case round =>
    obtain ⟨i0, y0, hi0, rfl, rfl, hy0, hy1⟩ := hrel
    by_cases hlt : i0 < n
    · obtain ⟨b, off, rfl, hc⟩ := HS.out i0 hlt
      have hFi := hF i0 hlt
      generalize F i0 = f at *
      by_cases h1 : f.size ≤ 1048576
      · by_cases h2 : y0 + (f.size : Int) ≤ 1048576
        · go_wp2_with fail
          go_round
          case rel => exact ⟨i0 + 1, y0 + f.size, by omega, by go_num, rfl, by omega, by omega⟩
          case measure => simp [intOf]; omega
        · go_wp2_with fail
          go_ret
          exact ⟨⟨_, rfl, fun h => by cases h⟩, rfl⟩
      · go_wp2_with fail
        go_ret
        exact ⟨⟨_, rfl, fun h => by cases h⟩, rfl⟩
    · go_wp2_with fail
      go_loop [13, 84] (fun z p => ∃ (i : Nat) (y : Int), i ≤ n7 ∧ p = .int .i64 i ∧ z = .int .i64 y ∧ 0 ≤ y ∧ y ≤ 1048576) (fun _ p => n7 - (intOf p).toNat)
      case atStart => exact ⟨0, _, Nat.zero_le _, rfl, rfl, by omega, by omega⟩
      case round =>
        obtain ⟨i1, y1, hi1, rfl, rfl, hy0, hy1⟩ := hrel
        by_cases hlt : i1 < n7
        · obtain ⟨b, off, rfl, hc⟩ := HS7.out i1 hlt
          have hFi := hF7 i1 hlt
          generalize F7 i1 = f at *
          by_cases h1 : f.size ≤ 1048576
          · by_cases h2 : y1 + (f.size : Int) ≤ 1048576
            · go_wp2_with fail
              go_round
              case rel => exact ⟨i1 + 1, y1 + f.size, by omega, by go_num, rfl, by omega, by omega⟩
              case measure => simp [intOf]; omega
            · go_wp2_with fail
              go_ret
              exact ⟨⟨_, rfl, fun h => by cases h⟩, rfl⟩
          · go_wp2_with fail
            go_ret
            exact ⟨⟨_, rfl, fun h => by cases h⟩, rfl⟩
        · go_wp2_with fail
          go_loop [13, 100] (fun z p => ∃ (i : Nat) (y : Int), i ≤ n8 ∧ p = .int .i64 i ∧ z = .int .i64 y ∧ 0 ≤ y ∧ y ≤ 1048576) (fun _ p => n8 - (intOf p).toNat)
          case atStart => exact ⟨0, _, Nat.zero_le _, rfl, rfl, by omega, by omega⟩
          case round =>
            obtain ⟨i2, y2, hi2, rfl, rfl, hy0, hy1⟩ := hrel
            by_cases hlt : i2 < n8
            · obtain ⟨b, off, rfl, hc⟩ := HS8.out i2 hlt
              have hFi := hF8 i2 hlt
              generalize F8 i2 = f at *
              by_cases h1 : f.size ≤ 1048576
              · by_cases h2 : y2 + (f.size : Int) ≤ 1048576
                · go_wp2_with fail
                  go_round
                  case rel => exact ⟨i2 + 1, y2 + f.size, by omega, by go_num, rfl, by omega, by omega⟩
                  case measure => simp [intOf]; omega
                · go_wp2_with fail
                  go_ret
                  exact ⟨⟨_, rfl, fun h => by cases h⟩, rfl⟩
              · go_wp2_with fail
                go_ret
                exact ⟨⟨_, rfl, fun h => by cases h⟩, rfl⟩
            · go_wp2_with fail
              go_ret
              exact ⟨⟨_, rfl, fun _ => HT.out⟩, rfl⟩

end Go.Proofs.Qxb6617202aMods
