/- 'FnTroubledIsFirstTroubleFlagElseConnection': the walk. -/
import Derived.Test.Qxb6617202aModsWalkG
namespace Go.Proofs.Qxb6617202aMods
open Go.RowKit Go.Deep
set_option linter.unusedVariables false

/-- An entry with one flag. -/
theorem lone15 (s0 s1 s4 : ByteArray) (x2 x5 x9 : Int) (a7 a8 : Option Addr) (n7 c7 n8 c8 g : Nat) (f : ByteArray) (w : World) (hc : w.cell? ⟨g, 0, none⟩ = some (.string f)) (hk : kind f ≠ 0) :
    Calls Trym.prog 15 #[.string s0, .string s1, .int .i64 x2, .slice (some ⟨g, 0, none⟩) 1 1, .string s4, .int .u64 x5, .bool true, .slice a7 n7 c7, .slice a8 n8 c8, .int .i64 x9] w fun e w' => e = .returned (.string (msg (kind f))) ∧ Below w.heap.size w w' := by
  have h := trouble15 s0 s1 s4 x2 x5 x9 (some ⟨g, 0, none⟩) a7 a8 1 1 n7 c7 n8 c8 true (fun _ => f) w (by omega) (fun i hi => ⟨g, 0, rfl, by
    have : i = 0 := by omega
    subst this
    exact hc⟩)
  have e : text (fk (fun _ => f) 1 0) true = msg (kind f) := by simp [fk, hk, text]
  rw [e] at h
  exact h

theorem one_new (w : World) (v : Value) (t : TypeId) : (w.alloc (.cells #[v] t)).cell? ⟨w.heap.size, 0, none⟩ = some v := by
  unfold World.cell?
  rw [heap_alloc_new]
  rfl
/-- .. in the block that has just been laid. -/
theorem lone_new (s0 s1 s4 : ByteArray) (x2 x5 x9 : Int) (a7 a8 : Option Addr) (n7 c7 n8 c8 : Nat) (f m : ByteArray) (w : World) (hk : kind f ≠ 0) (hm : msg (kind f) = m) :
    Calls Trym.prog 15 #[.string s0, .string s1, .int .i64 x2, .slice (some ⟨w.heap.size, 0, none⟩) 1 1, .string s4, .int .u64 x5, .bool true, .slice a7 n7 c7, .slice a8 n8 c8, .int .i64 x9] (w.alloc (.cells #[.string f] 9)) fun e w' =>
      e = .returned (.string m) ∧ Below w.heap.size w w' := by
  have h := lone15 s0 s1 s4 x2 x5 x9 a7 a8 n7 c7 n8 c8 w.heap.size f (w.alloc (.cells #[.string f] 9)) (one_new _ _ _) hk
  rw [hm] at h
  refine h.mono fun e w' ⟨he, hb⟩ => ⟨he, ((Below.refl _ _).alloc (Nat.le_refl _) _).trans (hb.mono (by simp))⟩
theorem cut15 (s0 s1 s4 : ByteArray) (x2 x5 x9 : Int) (a7 a8 : Option Addr) (n7 c7 n8 c8 : Nat) (w : World) :
    Calls Trym.prog 15 #[.string s0, .string s1, .int .i64 x2, .slice none 0 0, .string s4, .int .u64 x5, .bool false, .slice a7 n7 c7, .slice a8 n8 c8, .int .i64 x9] w fun e w' =>
      e = .returned (.string ⟨#[110, 111, 116, 32, 99, 111, 110, 110, 101, 99, 116, 101, 100]⟩) ∧ Below w.heap.size w w' :=
  trouble15 s0 s1 s4 x2 x5 x9 none a7 a8 0 0 n7 c7 n8 c8 false (fun _ => ByteArray.empty) w (by omega) (fun i hi => absurd hi (Nat.not_lt_zero _))
theorem k1' : kind (⟨#[102, 97, 105, 108]⟩ : ByteArray) ≠ 0 := by decide
theorem k2' : kind (⟨#[102, 97, 105, 108, 63]⟩ : ByteArray) ≠ 0 := by decide
theorem k3' : kind (⟨#[104, 97, 110, 100, 115, 104, 97, 107, 101]⟩ : ByteArray) ≠ 0 := by decide
theorem k4' : kind (⟨#[110, 111, 97, 100, 100, 114]⟩ : ByteArray) ≠ 0 := by decide
theorem m1' : msg (kind ⟨#[102, 97, 105, 108]⟩) = ⟨#[102, 97, 105, 108, 105, 110, 103, 32, 40, 102, 97, 105, 108, 41]⟩ := by decide
theorem m2' : msg (kind ⟨#[102, 97, 105, 108, 63]⟩) = ⟨#[102, 97, 105, 108, 105, 110, 103, 32, 40, 102, 97, 105, 108, 63, 41]⟩ := by decide
theorem m3' : msg (kind ⟨#[104, 97, 110, 100, 115, 104, 97, 107, 101]⟩) = ⟨#[115, 116, 105, 108, 108, 32, 105, 110, 32, 104, 97, 110, 100, 115, 104, 97, 107, 101]⟩ := by decide
theorem m4' : msg (kind ⟨#[110, 111, 97, 100, 100, 114]⟩) = ⟨#[111, 102, 32, 110, 111, 32, 107, 110, 111, 119, 110, 32, 97, 100, 100, 114, 101, 115, 115]⟩ := by decide

set_option maxHeartbeats 2000000 in
set_option maxRecDepth 100000 in
theorem first_in (s0 s1 s4 : ByteArray) (x2 x5 x9 : Int) (a a7 a8 : Option Addr) (n cap n7 c7 n8 c8 : Nat) (conn : Bool) (F F7 F8 : Nat → ByteArray) (w : World)
    (k0 : s0.size ≤ 9223372036854775807) (k1 : s1.size ≤ 9223372036854775807) (k4 : s4.size ≤ 9223372036854775807) (hn : n ≤ 9223372036854775807) (hn7 : n7 ≤ 9223372036854775807) (hn8 : n8 ≤ 9223372036854775807)
    (hs : Strs w a n F) (hs7 : Strs w a7 n7 F7) (hs8 : Strs w a8 n8 F8) (hF : ∀ i, i < n → (F i).size ≤ 9223372036854775807) (hF7 : ∀ i, i < n7 → (F7 i).size ≤ 9223372036854775807) (hF8 : ∀ i, i < n8 → (F8 i).size ≤ 9223372036854775807) :
    Calls Trym.prog 4 #[.string s0, .string s1, .int .i64 x2, .slice a n cap, .string s4, .int .u64 x5, .bool conn, .slice a7 n7 c7, .slice a8 n8 c8, .int .i64 x9] w fun e w' => e = .returned (.bool true) ∧ Below w.heap.size w w' := by
  have H13 : Hid (Calls Trym.prog 13 #[.string s0, .string s1, .int .i64 x2, .slice a n cap, .string s4, .int .u64 x5, .bool conn, .slice a7 n7 c7, .slice a8 n8 c8, .int .i64 x9] w fun e w' => SaysThat True e ∧ w = w') :=
    bytes13 s0 s1 s4 x2 x5 x9 a a7 a8 n cap n7 c7 n8 c8 conn F F7 F8 w k0 k1 k4 hn hn7 hn8 hs hs7 hs8 hF hF7 hF8
  have H14 : Hid (Calls Trym.prog 14 #[.string s0, .string s1, .slice a n cap, .string s4, .slice a7 n7 c7, .slice a8 n8 c8] w fun e w' => SaysThat (FitsT n n7 n8) e ∧ w = w') :=
    fits14 s0 s1 s4 a a7 a8 n cap n7 c7 n8 c8 F F7 F8 w k0 k1 k4 hn hn7 hn8 hs hs7 hs8 hF hF7 hF8
  have HS : Hid (Strs w a n F) := hs
  have HS7 : Hid (Strs w a7 n7 F7) := hs7
  have HS8 : Hid (Strs w a8 n8 F8) := hs8
  clear hs hs7 hs8 hF hF7 hF8
  have hnil := fun (wx : World) (a : Option Addr) (n c : Nat) => run_neq_slice_nil_any (P := Trym.prog) wx 33 9 a n c 0 0 Trym.underlying33
  go_enter Trym.func4, Trym.ntmps4
  go_wp2_with fail
  refine H13.out.mono ?_
  rintro e w' ⟨⟨r, rfl, _⟩, rfl⟩
  cases r with
  | false =>
    go_wp2_with fail
    go_ret
    exact ⟨rfl, Below.refl _ _⟩
  | true =>
  go_wp2_with fail
  refine H14.out.mono ?_
  rintro e w' ⟨⟨r, rfl, hfit⟩, rfl⟩
  cases r with
  | false =>
    go_wp2_with fail
    go_ret
    exact ⟨rfl, Below.refl _ _⟩
  | true =>
  obtain ⟨m3, m7, m8⟩ := hfit rfl
  clear hfit H13 H14
  go_upto_if 53 with fail
  go_cut [3] from 20 (fun v wc => ∃ (a' : Option Addr) (c' : Nat), v = .slice a' n c' ∧ Hid (Strs wc a' n F) ∧ Hid (Below w.heap.size w wc))
  case first =>
    have hmk := run_make_row' (P := Trym.prog) 33 9 (.string ByteArray.empty) 16 Trym.underlying33 Trym.info9 rfl .i64 .i64 n (by omega) (by omega)
    cases a with
    | none =>
      go_wp2_with fail
      go_meet
      case rel => exact ⟨_, _, rfl, HS, Below.refl _ _⟩
    | some x =>
      obtain ⟨W1, hcp, hst, hbl⟩ := copy_strs w x n cap F HS.out
      have HT : Hid (Strs W1 (some ⟨w.heap.size, 0, none⟩) n F) := hst
      have HB : Hid (Below w.heap.size w W1) := hbl
      clear hst hbl
      go_wp2_with fail
      go_meet
      case rel => exact ⟨_, _, rfl, HT, HB⟩
  case rest =>
    obtain ⟨a', c', rfl, HS', HB⟩ := hcut
    have HS7' : Hid (Strs wc a7 n7 F7) := HS7.out.below HB.out
    have HS8' : Hid (Strs wc a8 n8 F8) := HS8.out.below HB.out
    clear HS HS7 HS8
    go_upto_if 62 with fail
    go_cut [7] from 20 (fun v wd => ∃ (b' : Option Addr) (d' : Nat), v = .slice b' n7 d' ∧ Hid (Strs wd a' n F) ∧ Hid (Strs wd a8 n8 F8) ∧ Hid (Below w.heap.size w wd))
    case first =>
      have hmk := run_make_row' (P := Trym.prog) 33 9 (.string ByteArray.empty) 16 Trym.underlying33 Trym.info9 rfl .i64 .i64 n7 (by omega) (by omega)
      cases a7 with
      | none =>
        go_wp2_with fail
        go_meet
        case rel => exact ⟨_, _, rfl, HS', HS8', HB⟩
      | some x =>
        obtain ⟨W1, hcp, hst, hbl⟩ := copy_strs wc x n7 c7 F7 HS7'.out
        have HB' : Hid (Below w.heap.size w W1) := HB.out.trans (hbl.mono HB.out.size)
        have HS1 : Hid (Strs W1 a' n F) := HS'.out.below hbl
        have HS2 : Hid (Strs W1 a8 n8 F8) := HS8'.out.below hbl
        clear hst hbl
        go_wp2_with fail
        go_meet
        case rel => exact ⟨_, _, rfl, HS1, HS2, HB'⟩
    case rest =>
      clear HS' HS7' HS8' HB
      obtain ⟨b', d', rfl, HS', HS8', HB⟩ := hcut
      go_upto_if 71 with fail
      go_cut [8] from 20 (fun v wd => ∃ (b'' : Option Addr) (d'' : Nat), v = .slice b'' n8 d'' ∧ Hid (Strs wd a' n F) ∧ Hid (Below w.heap.size w wd))
      case first =>
        have hmk := run_make_row' (P := Trym.prog) 33 9 (.string ByteArray.empty) 16 Trym.underlying33 Trym.info9 rfl .i64 .i64 n8 (by omega) (by omega)
        cases a8 with
        | none =>
          go_wp2_with fail
          go_meet
          case rel => exact ⟨_, _, rfl, HS', HB⟩
        | some x =>
          obtain ⟨W1, hcp, hst, hbl⟩ := copy_strs wc x n8 c8 F8 HS8'.out
          have HB' : Hid (Below w.heap.size w W1) := HB.out.trans (hbl.mono HB.out.size)
          have HS1 : Hid (Strs W1 a' n F) := HS'.out.below hbl
          clear hst hbl
          go_wp2_with fail
          go_meet
          case rel => exact ⟨_, _, rfl, HS1, HB'⟩
      case rest =>
        clear HS' HS8' HB hnil
        obtain ⟨b'', d'', rfl, HS', HB⟩ := hcut
        go_wp2_with fail
        refine (trouble15 s0 s1 s4 x2 x5 x9 a' b' b'' n c' n7 d' n8 d'' conn F wc hn HS'.out).mono ?_
        rintro e w1 ⟨rfl, hb1⟩
        have HB1 : Hid (Below w.heap.size w w1) := HB.out.trans (hb1.mono HB.out.size)
        have HS1 : Hid (Strs w1 a' n F) := HS'.out.below hb1
        clear hb1 HB HS'
        generalize hG : text (fk F n 0) conn = G
        have HG : Hid (text (fk F n 0) conn = G) := hG
        clear hG
        go_wp2_with fail
        refine (lone_new s0 s1 s4 x2 x5 x9 b' b'' n7 d' n8 d'' _ _ w1 k1' m1').mono ?_
        rintro e w2 ⟨rfl, hb2⟩
        have HB2 : Hid (Below w.heap.size w w2) := HB1.out.trans (hb2.mono HB1.out.size)
        have HS2 : Hid (Strs w2 a' n F) := HS1.out.below hb2
        clear hb2 HB1 HS1
        go_wp2_with fail
        refine (lone_new s0 s1 s4 x2 x5 x9 b' b'' n7 d' n8 d'' _ _ w2 k2' m2').mono ?_
        rintro e w3 ⟨rfl, hb3⟩
        have HB3 : Hid (Below w.heap.size w w3) := HB2.out.trans (hb3.mono HB2.out.size)
        have HS3 : Hid (Strs w3 a' n F) := HS2.out.below hb3
        clear hb3 HB2 HS2
        go_wp2_with fail
        refine (lone_new s0 s1 s4 x2 x5 x9 b' b'' n7 d' n8 d'' _ _ w3 k3' m3').mono ?_
        rintro e w4 ⟨rfl, hb4⟩
        have HB4 : Hid (Below w.heap.size w w4) := HB3.out.trans (hb4.mono HB3.out.size)
        have HS4 : Hid (Strs w4 a' n F) := HS3.out.below hb4
        clear hb4 HB3 HS3
        go_wp2_with fail
        refine (lone_new s0 s1 s4 x2 x5 x9 b' b'' n7 d' n8 d'' _ _ w4 k4' m4').mono ?_
        rintro e w5 ⟨rfl, hb5⟩
        have HB5 : Hid (Below w.heap.size w w5) := HB4.out.trans (hb5.mono HB4.out.size)
        have HS5 : Hid (Strs w5 a' n F) := HS4.out.below hb5
        clear hb5 HB4 HS4
        go_wp2_with fail
        refine (cut15 s0 s1 s4 x2 x5 x9 b' b'' n7 d' n8 d'' w5).mono ?_
        rintro e w6 ⟨rfl, hb6⟩
        have HB6 : Hid (Below w.heap.size w w6) := HB5.out.trans (hb6.mono HB5.out.size)
        have HS6 : Hid (Strs w6 a' n F) := HS5.out.below hb6
        clear hb6 HB5 HS5
        go_wp2_with fail
        have H16 : Hid (Calls Trym.prog 16 #[.slice a' n c'] w6 fun e w' => e = .returned (.int .i64 (fi F n 0)) ∧ w6 = w') := first16 a' n c' F w6 hn HS6.out
        rcases fi_fk F n 0 with ⟨e1, e2⟩ | ⟨k, _, h2, h3, h4, h5⟩
        · rw [e1] at H16
          rw [e2] at HG
          clear e1 e2
          cases conn
          · obtain rfl : (⟨#[110, 111, 116, 32, 99, 111, 110, 110, 101, 99, 116, 101, 100]⟩ : ByteArray) = G := HG.out
            clear HG
            go_wp2_with (go_at_call 16; refine H16.out.mono ?_; rintro e w' ⟨rfl, rfl⟩)
            go_ret
            exact ⟨rfl, HB6.out⟩
          · obtain rfl : (⟨#[]⟩ : ByteArray) = G := HG.out
            clear HG
            go_wp2_with (go_at_call 16; refine H16.out.mono ?_; rintro e w' ⟨rfl, rfl⟩)
            go_ret
            exact ⟨rfl, HB6.out⟩
        · rw [h3] at H16
          rw [h4] at HG
          clear h3 h4
          have hkn : k < n := by omega
          obtain ⟨b, off, rfl, hc⟩ := HS6.out k hkn
          clear HS6
          rcases kind_cases (F k) with h | h | h | h | ⟨h0, _⟩
          · rw [h] at hc HG
            obtain rfl : (⟨#[102, 97, 105, 108, 105, 110, 103, 32, 40, 102, 97, 105, 108, 41]⟩ : ByteArray) = G := HG.out
            clear HG h h5
            unfold sFail at hc
            go_wp2_with (go_at_call 16; refine H16.out.mono ?_; rintro e w' ⟨rfl, rfl⟩)
            go_ret
            exact ⟨rfl, HB6.out⟩
          · rw [h] at hc HG
            obtain rfl : (⟨#[102, 97, 105, 108, 105, 110, 103, 32, 40, 102, 97, 105, 108, 63, 41]⟩ : ByteArray) = G := HG.out
            clear HG h h5
            unfold sFailMaybe at hc
            go_wp2_with (go_at_call 16; refine H16.out.mono ?_; rintro e w' ⟨rfl, rfl⟩)
            go_ret
            exact ⟨rfl, HB6.out⟩
          · rw [h] at hc HG
            obtain rfl : (⟨#[115, 116, 105, 108, 108, 32, 105, 110, 32, 104, 97, 110, 100, 115, 104, 97, 107, 101]⟩ : ByteArray) = G := HG.out
            clear HG h h5
            unfold sHand at hc
            go_wp2_with (go_at_call 16; refine H16.out.mono ?_; rintro e w' ⟨rfl, rfl⟩)
            go_ret
            exact ⟨rfl, HB6.out⟩
          · rw [h] at hc HG
            obtain rfl : (⟨#[111, 102, 32, 110, 111, 32, 107, 110, 111, 119, 110, 32, 97, 100, 100, 114, 101, 115, 115]⟩ : ByteArray) = G := HG.out
            clear HG h h5
            unfold sNoAddr at hc
            go_wp2_with (go_at_call 16; refine H16.out.mono ?_; rintro e w' ⟨rfl, rfl⟩)
            go_ret
            exact ⟨rfl, HB6.out⟩
          · exact absurd h0 h5
end Go.Proofs.Qxb6617202aMods
