/- 'troubled', 'ZZEntryTroubled': the walks. -/
import Derived.Test.Qxb6617202aModsWalkE
namespace Go.Proofs.Qxb6617202aMods
open Go.RowKit Go.Deep
set_option linter.unusedVariables false

theorem cat1 : (⟨#[102, 97, 105, 108, 105, 110, 103, 32, 40]⟩ ++ ⟨#[102, 97, 105, 108]⟩ ++ ⟨#[41]⟩ : ByteArray) = msg 1 := by decide +kernel
theorem cat2 : (⟨#[102, 97, 105, 108, 105, 110, 103, 32, 40]⟩ ++ ⟨#[102, 97, 105, 108, 63]⟩ ++ ⟨#[41]⟩ : ByteArray) = msg 2 := by decide +kernel

set_option maxHeartbeats 1000000 in
set_option maxRecDepth 100000 in
theorem trouble22 (v0 v1 v2 v4 v5 v7 v8 v9 : Value) (a : Option Addr) (n cap : Nat) (conn : Bool) (F : Nat → ByteArray) (w : World) (hn : n ≤ 9223372036854775807) (hs : Strs w a n F) :
    Calls Trym.prog 22 #[.agg #[v0, v1, v2, .slice a n cap, v4, v5, .bool conn, v7, v8, v9]] w fun e w' => e = .returned (.string (text (fk F n 0) conn)) ∧ Below w.heap.size w w' := by
  have HS : Hid (Strs w a n F) := hs
  clear hs
  go_enter Trym.func22, Trym.ntmps22
  go_wp2_with fail
  go_loop [2, 4, 8] (fun _ _ p => ∃ i : Nat, i ≤ n ∧ p = .int .i64 i ∧ Hid (fk F n 0 = fk F (n - i) i)) (fun _ _ p => n - (intOf p).toNat)
  case atStart => exact ⟨0, Nat.zero_le _, rfl, rfl⟩
  case round =>
    obtain ⟨i, hi, rfl, HI⟩ := hrel
    by_cases hlt : i < n
    · obtain ⟨b, off, rfl, hc⟩ := HS.out i hlt
      have hb : b < w.heap.size := World.block_lt_of_cell? w _ hc
      have hst := fk_step F hlt
      rcases kind_cases (F i) with h | h | h | h | ⟨h0, h1, h2, h3, h4⟩
      · have HT : Hid (msg 1 = text (fk F n 0) conn) := by
          have := HI.out
          rw [hst, h, kind_fail] at this
          rw [this]; rfl
        rw [h] at hc
        clear hst h HI
        unfold sFail at hc
        go_wp2_with fail
        go_ret
        exact ⟨ret_str (cat1.trans HT.out), (Below.refl _ _).alloc (Nat.le_refl _) _⟩
      · have HT : Hid (msg 2 = text (fk F n 0) conn) := by
          have := HI.out
          rw [hst, h, kind_failMaybe] at this
          rw [this]; rfl
        rw [h] at hc
        clear hst h HI
        unfold sFailMaybe at hc
        go_wp2_with fail
        go_ret
        exact ⟨ret_str (cat2.trans HT.out), (Below.refl _ _).alloc (Nat.le_refl _) _⟩
      · have HT : Hid (msg 3 = text (fk F n 0) conn) := by
          have := HI.out
          rw [hst, h, kind_hand] at this
          rw [this]; rfl
        rw [h] at hc
        clear hst h HI
        unfold sHand at hc
        go_wp2_with fail
        go_ret
        exact ⟨ret_str HT.out, (Below.refl _ _).alloc (Nat.le_refl _) _⟩
      · have HT : Hid (msg 4 = text (fk F n 0) conn) := by
          have := HI.out
          rw [hst, h, kind_noAddr] at this
          rw [this]; rfl
        rw [h] at hc
        clear hst h HI
        unfold sNoAddr at hc
        go_wp2_with fail
        go_ret
        exact ⟨ret_str HT.out, (Below.refl _ _).alloc (Nat.le_refl _) _⟩
      · have HI2 : Hid (fk F n 0 = fk F (n - (i + 1)) (i + 1)) := by
          have := HI.out
          rw [hst, if_pos h0] at this
          exact this
        clear hst h0 HI
        generalize F i = f at *
        go_wp2_with fail
        go_round
        case rel => exact ⟨i + 1, by omega, by go_num, HI2⟩
        case measure => simp [intOf]; omega
    · have hie : i = n := by omega
      subst hie
      have HT : Hid (fk F i 0 = 0) := by
        have := HI.out
        rw [Nat.sub_self] at this
        exact this
      have HE : Hid (∀ c, text 0 c = text (fk F i 0) c) := fun c => by rw [HT.out]
      clear HI HT
      cases conn
      · have HE' : Hid (sCut = text (fk F i 0) false) := HE.out false
        go_wp2_with fail
        go_ret
        exact ⟨ret_str HE'.out, (Below.refl _ _).alloc (Nat.le_refl _) _⟩
      · have HE' : Hid ((⟨#[]⟩ : ByteArray) = text (fk F i 0) true) := HE.out true
        go_wp2_with fail
        go_ret
        exact ⟨ret_str HE'.out, (Below.refl _ _).alloc (Nat.le_refl _) _⟩

set_option maxHeartbeats 1000000 in
set_option maxRecDepth 100000 in
theorem trouble15 (s0 s1 s4 : ByteArray) (x2 x5 x9 : Int) (a a7 a8 : Option Addr) (n cap n7 c7 n8 c8 : Nat) (conn : Bool) (F : Nat → ByteArray) (w : World) (hn : n ≤ 9223372036854775807) (hs : Strs w a n F) :
    Calls Trym.prog 15 #[.string s0, .string s1, .int .i64 x2, .slice a n cap, .string s4, .int .u64 x5, .bool conn, .slice a7 n7 c7, .slice a8 n8 c8, .int .i64 x9] w fun e w' => e = .returned (.string (text (fk F n 0) conn)) ∧ Below w.heap.size w w' := by
  have H22 : Hid (Calls Trym.prog 22 #[.agg #[.string s0, .string s1, .int .i64 x2, .slice a n cap, .string s4, .int .u64 x5, .bool conn, .slice a7 n7 c7, .slice a8 n8 c8, .int .i64 x9]] w fun e w' => e = .returned (.string (text (fk F n 0) conn)) ∧ Below w.heap.size w w') :=
    trouble22 _ _ _ _ _ _ _ _ a n cap conn F w hn hs
  clear hs
  go_enter Trym.func15, Trym.ntmps15
  go_wp2_with (go_at_call 22; refine H22.out.mono ?_; rintro e w' ⟨rfl, hb⟩)
  go_ret
  exact ⟨rfl, hb⟩
end Go.Proofs.Qxb6617202aMods
