/- 'FnTroubledAtAnyCutOfFlags': the walk. -/
import Derived.Test.Qxb6617202aModsWalkH
namespace Go.Proofs.Qxb6617202aMods
open Go.RowKit Go.Deep
set_option linter.unusedVariables false

theorem msg_some (k : Nat) : (msg k).toList.isEmpty = false := by
  unfold msg
  split
  · decide +kernel
  · split
    · decide +kernel
    · split <;> decide +kernel
theorem cut_some : sCut.toList.isEmpty = false := by decide +kernel

theorem fk_shift (F : Nat → ByteArray) (k : Nat) : ∀ m i, fk (fun i => F (k + i)) m i = fk F m (k + i)
  | 0, _ => rfl
  | m + 1, i => by
    simp only [fk]
    rw [fk_shift F k m (i + 1), Nat.add_assoc]
theorem fk_add (F : Nat → ByteArray) (m : Nat) : ∀ k i, fk F (k + m) i = if fk F k i = 0 then fk F m (i + k) else fk F k i
  | 0, i => by simp [fk]
  | k + 1, i => by
    rw [show k + 1 + m = (k + m) + 1 by omega]
    by_cases h : kind (F i) = 0
    · have e1 : fk F (k + 1) i = fk F k (i + 1) := by simp [fk, h]
      have e2 : fk F (k + m + 1) i = fk F (k + m) (i + 1) := by simp [fk, h]
      rw [e2, e1, fk_add F m k (i + 1), show i + (k + 1) = i + 1 + k by omega]
    · have e1 : fk F (k + 1) i = kind (F i) := by simp [fk, h]
      have e2 : fk F (k + m + 1) i = kind (F i) := by simp [fk, h]
      rw [e2, e1, if_neg h]

/-- The entry's trouble is the head's where the head shows one, else the tail's; and it is empty just where nothing is wrong. -/
theorem cut_law (F : Nat → ByteArray) (n k : Nat) (conn : Bool) (hk : k ≤ n) :
    (∃ M, text (fk F n 0) conn = M ∧ text (fk F k 0) true = M ∧ M.toList.isEmpty = false ∧ 0 ≤ fi F n 0) ∨
    (text (fk F k 0) true = ⟨#[]⟩ ∧ ∃ M, text (fk F n 0) conn = M ∧ text (fk (fun i => F (k + i)) (n - k) 0) conn = M ∧
      ((M.toList.isEmpty = false ∧ (conn = false ∨ 0 ≤ fi F n 0)) ∨ (M = ⟨#[]⟩ ∧ conn = true ∧ fi F n 0 = -1))) := by
  have hs : fk F n 0 = if fk F k 0 = 0 then fk (fun i => F (k + i)) (n - k) 0 else fk F k 0 := by
    have h := fk_add F (n - k) k 0
    rw [show k + (n - k) = n by omega] at h
    rw [h, fk_shift F k (n - k) 0, Nat.zero_add, Nat.add_zero]
  by_cases h0 : fk F k 0 = 0
  · right
    rw [if_pos h0] at hs
    refine ⟨by rw [h0]; rfl, _, rfl, by rw [hs], ?_⟩
    rcases fi_fk F n 0 with ⟨e1, e2⟩ | ⟨q, _, _, e1, e2, e3⟩
    · cases conn
      · exact .inl ⟨by rw [e2]; exact cut_some, .inl rfl⟩
      · exact .inr ⟨by rw [e2]; rfl, rfl, e1⟩
    · have hne : fk F n 0 ≠ 0 := by rw [e2]; exact e3
      refine .inl ⟨?_, .inr (by rw [e1]; omega)⟩
      rw [text, if_neg hne]
      exact msg_some _
  · left
    rw [if_neg h0] at hs
    refine ⟨_, rfl, ?_, ?_, ?_⟩
    · rw [hs, text, text, if_neg h0, if_neg h0]
    · rw [hs, text, if_neg h0]
      exact msg_some _
    · rcases fi_fk F n 0 with ⟨e1, e2⟩ | ⟨q, _, _, e1, e2, e3⟩
      · exact absurd (hs.symm.trans e2) h0
      · rw [e1]; omega

set_option maxHeartbeats 2000000 in
set_option maxRecDepth 100000 in
theorem cut_in (s0 s1 s4 : ByteArray) (x2 x5 x9 ct : Int) (a a7 a8 : Option Addr) (n cap n7 c7 n8 c8 : Nat) (conn : Bool) (F F7 F8 : Nat → ByteArray) (w : World)
    (k0 : s0.size ≤ 9223372036854775807) (k1 : s1.size ≤ 9223372036854775807) (k4 : s4.size ≤ 9223372036854775807) (hn : n ≤ 9223372036854775807) (hn7 : n7 ≤ 9223372036854775807) (hn8 : n8 ≤ 9223372036854775807)
    (hna : a = none → n = 0 ∧ cap = 0) (hs : Strs w a n F) (hs7 : Strs w a7 n7 F7) (hs8 : Strs w a8 n8 F8) (hF : ∀ i, i < n → (F i).size ≤ 9223372036854775807) (hF7 : ∀ i, i < n7 → (F7 i).size ≤ 9223372036854775807) (hF8 : ∀ i, i < n8 → (F8 i).size ≤ 9223372036854775807) :
    Calls Trym.prog 5 #[.string s0, .string s1, .int .i64 x2, .slice a n cap, .string s4, .int .u64 x5, .bool conn, .slice a7 n7 c7, .slice a8 n8 c8, .int .i64 x9, .int .i64 ct] w fun e w' => e = .returned (.bool true) ∧ Below w.heap.size w w' := by
  have H17 : Hid (Calls Trym.prog 17 #[.string s0, .string s1, .int .i64 x2, .slice a n cap, .string s4, .int .u64 x5, .bool conn, .slice a7 n7 c7, .slice a8 n8 c8, .int .i64 x9, .int .i64 ct] w fun e w' => SaysThat True e ∧ w = w') :=
    bytes17 s0 s1 s4 x2 x5 x9 ct a a7 a8 n cap n7 c7 n8 c8 conn F F7 F8 w k0 k1 k4 hn hn7 hn8 hs hs7 hs8 hF hF7 hF8
  have H14 : Hid (Calls Trym.prog 14 #[.string s0, .string s1, .slice a n cap, .string s4, .slice a7 n7 c7, .slice a8 n8 c8] w fun e w' => SaysThat (FitsT n n7 n8) e ∧ w = w') :=
    fits14 s0 s1 s4 a a7 a8 n cap n7 c7 n8 c8 F F7 F8 w k0 k1 k4 hn hn7 hn8 hs hs7 hs8 hF hF7 hF8
  have HS : Hid (Strs w a n F) := hs
  have HS7 : Hid (Strs w a7 n7 F7) := hs7
  have HS8 : Hid (Strs w a8 n8 F8) := hs8
  have HNA : Hid (a = none → n = 0 ∧ cap = 0) := hna
  clear hs hs7 hs8 hF hF7 hF8 hna
  have hnil := fun (wx : World) (a : Option Addr) (n c : Nat) => run_neq_slice_nil_any (P := Trym.prog) wx 33 9 a n c 0 0 Trym.underlying33
  go_enter Trym.func5, Trym.ntmps5
  go_wp2_with fail
  refine H17.out.mono ?_
  rintro e w' ⟨⟨r, rfl, _⟩, rfl⟩
  cases r with
  | false =>
    go_wp2_with fail
    go_ret
    exact ⟨rfl, Below.refl _ _⟩
  | true =>
  go_wp2_with fail
  refine H14.out.mono ?_
  rintro e w' ⟨⟨r, rfl, hfit⟩, rfl⟩
  cases r with
  | false =>
    go_wp2_with fail
    go_ret
    exact ⟨rfl, Below.refl _ _⟩
  | true =>
  obtain ⟨m3, m7, m8⟩ := hfit rfl
  clear hfit H17 H14
  by_cases g1 : ct < 0
  · go_wp2_with fail
    go_ret
    exact ⟨rfl, Below.refl _ _⟩
  by_cases g2 : (n : Int) < ct
  · go_wp2_with fail
    go_ret
    exact ⟨rfl, Below.refl _ _⟩
  obtain ⟨k, rfl⟩ : ∃ k : Nat, ct = k := ⟨ct.toNat, by omega⟩
  have hkn : k ≤ n := by omega
  clear g1 g2
  go_upto_if 61 with fail
  go_cut [3] from 22 (fun v wc => ∃ (a' : Option Addr) (c' : Nat), v = .slice a' n c' ∧ Hid ((a' = none ∧ n = 0 ∧ c' = 0) ∨ ∃ g, a' = some ⟨g, 0, none⟩ ∧ c' = n) ∧ Hid (Strs wc a' n F) ∧ Hid (Below w.heap.size w wc))
  case first =>
    have hmk := run_make_row' (P := Trym.prog) 33 9 (.string ByteArray.empty) 16 Trym.underlying33 Trym.info9 rfl .i64 .i64 n (by omega) (by omega)
    cases a with
    | none =>
      obtain ⟨rfl, rfl⟩ := HNA.out (by first | rfl | trivial)
      go_wp2_with fail
      go_meet
      case rel => exact ⟨_, _, rfl, .inl ⟨by first | rfl | trivial, by first | rfl | trivial, by first | rfl | trivial⟩, HS, Below.refl _ _⟩
    | some x =>
      obtain ⟨W1, hcp, hst, hbl⟩ := copy_strs w x n cap F HS.out
      have HT : Hid (Strs W1 (some ⟨w.heap.size, 0, none⟩) n F) := hst
      have HB : Hid (Below w.heap.size w W1) := hbl
      clear hst hbl
      go_wp2_with fail
      go_meet
      case rel => exact ⟨_, _, rfl, .inr ⟨_, rfl, rfl⟩, HT, HB⟩
  case rest =>
    obtain ⟨a', c', rfl, HA, HS', HB⟩ := hcut
    have HS7' : Hid (Strs wc a7 n7 F7) := HS7.out.below HB.out
    have HS8' : Hid (Strs wc a8 n8 F8) := HS8.out.below HB.out
    clear HS HS7 HS8
    go_upto_if 70 with fail
    go_cut [7] from 22 (fun v wd => ∃ (b' : Option Addr) (d' : Nat), v = .slice b' n7 d' ∧ Hid (Strs wd a' n F) ∧ Hid (Strs wd a8 n8 F8) ∧ Hid (Below w.heap.size w wd))
    case first =>
      have hmk := run_make_row' (P := Trym.prog) 33 9 (.string ByteArray.empty) 16 Trym.underlying33 Trym.info9 rfl .i64 .i64 n7 (by omega) (by omega)
      cases a7 with
      | none =>
        go_wp2_with fail
        go_meet
        case rel => exact ⟨_, _, rfl, HS', HS8', HB⟩
      | some x =>
        obtain ⟨W1, hcp, hst, hbl⟩ := copy_strs wc x n7 c7 F7 HS7'.out
        have HB' : Hid (Below w.heap.size w W1) := HB.out.trans (hbl.mono HB.out.size)
        have HS1 : Hid (Strs W1 a' n F) := HS'.out.below hbl
        have HS2 : Hid (Strs W1 a8 n8 F8) := HS8'.out.below hbl
        clear hst hbl
        go_wp2_with fail
        go_meet
        case rel => exact ⟨_, _, rfl, HS1, HS2, HB'⟩
    case rest =>
      clear HS' HS7' HS8' HB
      obtain ⟨b', d', rfl, HS', HS8', HB⟩ := hcut
      go_upto_if 79 with fail
      go_cut [8] from 22 (fun v wd => ∃ (b'' : Option Addr) (d'' : Nat), v = .slice b'' n8 d'' ∧ Hid (Strs wd a' n F) ∧ Hid (Below w.heap.size w wd))
      case first =>
        have hmk := run_make_row' (P := Trym.prog) 33 9 (.string ByteArray.empty) 16 Trym.underlying33 Trym.info9 rfl .i64 .i64 n8 (by omega) (by omega)
        cases a8 with
        | none =>
          go_wp2_with fail
          go_meet
          case rel => exact ⟨_, _, rfl, HS', HB⟩
        | some x =>
          obtain ⟨W1, hcp, hst, hbl⟩ := copy_strs wc x n8 c8 F8 HS8'.out
          have HB' : Hid (Below w.heap.size w W1) := HB.out.trans (hbl.mono HB.out.size)
          have HS1 : Hid (Strs W1 a' n F) := HS'.out.below hbl
          clear hst hbl
          go_wp2_with fail
          go_meet
          case rel => exact ⟨_, _, rfl, HS1, HB'⟩
      case rest =>
        clear HS' HS8' HB hnil
        obtain ⟨b'', d'', rfl, HS', HB⟩ := hcut
        have HA' := HA.out
        clear HA
        rcases HA' with ⟨rfl, rfl, rfl⟩ | ⟨g, rfl, rfl⟩
        · have hk0 : k = 0 := by omega
          subst hk0
          go_wp2_with fail
          refine (trouble15 s0 s1 s4 x2 x5 x9 none b' b'' 0 0 n7 d' n8 d'' conn F wc (by omega) HS'.out).mono ?_
          rintro e w1 ⟨rfl, hb1⟩
          have HB1 : Hid (Below w.heap.size w w1) := HB.out.trans (hb1.mono HB.out.size)
          have HS1 : Hid (Strs w1 none 0 F) := HS'.out.below hb1
          clear hb1 HB HS'
          go_wp2_with fail
          refine (trouble15 s0 s1 s4 x2 x5 x9 none b' b'' 0 0 n7 d' n8 d'' true F w1 (by omega) (fun i hi => HS1.out i (by omega))).mono ?_
          rintro e w2 ⟨rfl, hb2⟩
          have HB2 : Hid (Below w.heap.size w w2) := HB1.out.trans (hb2.mono HB1.out.size)
          have HS2 : Hid (Strs w2 none 0 F) := HS1.out.below hb2
          clear hb2 HB1 HS1
          have HSt : Hid (Strs w2 none 0 (fun i => F (0 + i))) := fun i hi => absurd hi (Nat.not_lt_zero _)
          go_wp2_with fail
          refine (trouble15 s0 s1 s4 x2 x5 x9 none b' b'' 0 0 n7 d' n8 d'' conn (fun i => F (0 + i)) w2 (by omega) HSt.out).mono ?_
          rintro e w3 ⟨rfl, hb3⟩
          have HB3 : Hid (Below w.heap.size w w3) := HB2.out.trans (hb3.mono HB2.out.size)
          have HS3 : Hid (Strs w3 none 0 F) := HS2.out.below hb3
          clear hb3 HB2 HS2 HSt
          have H16 : Hid (Calls Trym.prog 16 #[.slice none 0 0] w3 fun e w' => e = .returned (.int .i64 (fi F 0 0)) ∧ w3 = w') := first16 _ 0 0 F w3 hn HS3.out
          rcases cut_law F 0 0 conn (by omega) with ⟨M, e1, e2, e3, e4⟩ | ⟨e2, M, e1, e0, e3⟩
          · rw [e1, e2]
            clear e1 e2
            generalize fi F 0 0 = p at *
            cases conn
            · go_wp2_with (go_at_call 16; refine H16.out.mono ?_; rintro e w' ⟨rfl, rfl⟩)
              go_ret
              exact ⟨rfl, HB3.out⟩
            · go_wp2_with (go_at_call 16; refine H16.out.mono ?_; rintro e w' ⟨rfl, rfl⟩)
              go_ret
              exact ⟨rfl, HB3.out⟩
          · rw [e1, e2, e0]
            clear e1 e2 e0
            generalize fi F 0 0 = p at *
            rcases e3 with ⟨e3, e4⟩ | ⟨rfl, rfl, rfl⟩
            · cases conn
              · clear e4
                go_wp2_with (go_at_call 16; refine H16.out.mono ?_; rintro e w' ⟨rfl, rfl⟩)
                go_ret
                exact ⟨rfl, HB3.out⟩
              · have e5 : 0 ≤ p := by simpa using e4
                clear e4
                go_wp2_with (go_at_call 16; refine H16.out.mono ?_; rintro e w' ⟨rfl, rfl⟩)
                go_ret
                exact ⟨rfl, HB3.out⟩
            · go_wp2_with (go_at_call 16; refine H16.out.mono ?_; rintro e w' ⟨rfl, rfl⟩)
              go_ret
              exact ⟨rfl, HB3.out⟩
        · by_cases hkc : k = c'
          · subst hkc
            go_wp2_with fail
            refine (trouble15 s0 s1 s4 x2 x5 x9 (some ⟨g, 0, none⟩) b' b'' k k n7 d' n8 d'' conn F wc (by omega) HS'.out).mono ?_
            rintro e w1 ⟨rfl, hb1⟩
            have HB1 : Hid (Below w.heap.size w w1) := HB.out.trans (hb1.mono HB.out.size)
            have HS1 : Hid (Strs w1 (some ⟨g, 0, none⟩) k F) := HS'.out.below hb1
            clear hb1 HB HS'
            go_wp2_with fail
            refine (trouble15 s0 s1 s4 x2 x5 x9 (some ⟨g, 0, none⟩) b' b'' k k n7 d' n8 d'' true F w1 (by omega) (fun i hi => HS1.out i (by omega))).mono ?_
            rintro e w2 ⟨rfl, hb2⟩
            have HB2 : Hid (Below w.heap.size w w2) := HB1.out.trans (hb2.mono HB1.out.size)
            have HS2 : Hid (Strs w2 (some ⟨g, 0, none⟩) k F) := HS1.out.below hb2
            clear hb2 HB1 HS1
            have HSt : Hid (Strs w2 (some ⟨g, 0, none⟩) 0 (fun i => F (k + i))) := fun i hi => absurd hi (Nat.not_lt_zero _)
            go_wp2_with fail
            refine (trouble15 s0 s1 s4 x2 x5 x9 (some ⟨g, 0, none⟩) b' b'' 0 0 n7 d' n8 d'' conn (fun i => F (k + i)) w2 (by omega) HSt.out).mono ?_
            rintro e w3 ⟨rfl, hb3⟩
            have HB3 : Hid (Below w.heap.size w w3) := HB2.out.trans (hb3.mono HB2.out.size)
            have HS3 : Hid (Strs w3 (some ⟨g, 0, none⟩) k F) := HS2.out.below hb3
            clear hb3 HB2 HS2 HSt
            have H16 : Hid (Calls Trym.prog 16 #[.slice (some ⟨g, 0, none⟩) k k] w3 fun e w' => e = .returned (.int .i64 (fi F k 0)) ∧ w3 = w') := first16 _ k k F w3 hn HS3.out
            rcases cut_law F k k conn (by omega) with ⟨M, e1, e2, e3, e4⟩ | ⟨e2, M, e1, e0, e3⟩
            · rw [e1, e2]
              clear e1 e2
              generalize fi F k 0 = p at *
              cases conn
              · go_wp2_with (go_at_call 16; refine H16.out.mono ?_; rintro e w' ⟨rfl, rfl⟩)
                go_ret
                exact ⟨rfl, HB3.out⟩
              · go_wp2_with (go_at_call 16; refine H16.out.mono ?_; rintro e w' ⟨rfl, rfl⟩)
                go_ret
                exact ⟨rfl, HB3.out⟩
            · rw [Nat.sub_self] at e0
              rw [e1, e2, e0]
              clear e1 e2 e0
              generalize fi F k 0 = p at *
              rcases e3 with ⟨e3, e4⟩ | ⟨rfl, rfl, rfl⟩
              · cases conn
                · clear e4
                  go_wp2_with (go_at_call 16; refine H16.out.mono ?_; rintro e w' ⟨rfl, rfl⟩)
                  go_ret
                  exact ⟨rfl, HB3.out⟩
                · have e5 : 0 ≤ p := by simpa using e4
                  clear e4
                  go_wp2_with (go_at_call 16; refine H16.out.mono ?_; rintro e w' ⟨rfl, rfl⟩)
                  go_ret
                  exact ⟨rfl, HB3.out⟩
              · go_wp2_with (go_at_call 16; refine H16.out.mono ?_; rintro e w' ⟨rfl, rfl⟩)
                go_ret
                exact ⟨rfl, HB3.out⟩
          · go_wp2_with fail
            refine (trouble15 s0 s1 s4 x2 x5 x9 (some ⟨g, 0, none⟩) b' b'' c' c' n7 d' n8 d'' conn F wc (by omega) HS'.out).mono ?_
            rintro e w1 ⟨rfl, hb1⟩
            have HB1 : Hid (Below w.heap.size w w1) := HB.out.trans (hb1.mono HB.out.size)
            have HS1 : Hid (Strs w1 (some ⟨g, 0, none⟩) c' F) := HS'.out.below hb1
            clear hb1 HB HS'
            go_wp2_with fail
            refine (trouble15 s0 s1 s4 x2 x5 x9 (some ⟨g, 0, none⟩) b' b'' k c' n7 d' n8 d'' true F w1 (by omega) (fun i hi => HS1.out i (by omega))).mono ?_
            rintro e w2 ⟨rfl, hb2⟩
            have HB2 : Hid (Below w.heap.size w w2) := HB1.out.trans (hb2.mono HB1.out.size)
            have HS2 : Hid (Strs w2 (some ⟨g, 0, none⟩) c' F) := HS1.out.below hb2
            clear hb2 HB1 HS1
            have HSt : Hid (Strs w2 (some ⟨g, k, none⟩) (c' - k) (fun i => F (k + i))) := fun i hi => by
              obtain ⟨b, off, e, hc⟩ := HS2.out (k + i) (by omega)
              obtain ⟨rfl, rfl⟩ : g = b ∧ 0 = off := by simpa using e
              exact ⟨g, k, rfl, by rw [Nat.zero_add] at hc; exact hc⟩
            go_wp2_with fail
            refine (trouble15 s0 s1 s4 x2 x5 x9 (some ⟨g, k, none⟩) b' b'' (c' - k) (c' - k) n7 d' n8 d'' conn (fun i => F (k + i)) w2 (by omega) HSt.out).mono ?_
            rintro e w3 ⟨rfl, hb3⟩
            have HB3 : Hid (Below w.heap.size w w3) := HB2.out.trans (hb3.mono HB2.out.size)
            have HS3 : Hid (Strs w3 (some ⟨g, 0, none⟩) c' F) := HS2.out.below hb3
            clear hb3 HB2 HS2 HSt
            have H16 : Hid (Calls Trym.prog 16 #[.slice (some ⟨g, 0, none⟩) c' c'] w3 fun e w' => e = .returned (.int .i64 (fi F c' 0)) ∧ w3 = w') := first16 _ c' c' F w3 hn HS3.out
            rcases cut_law F c' k conn (by omega) with ⟨M, e1, e2, e3, e4⟩ | ⟨e2, M, e1, e0, e3⟩
            · rw [e1, e2]
              clear e1 e2
              generalize fi F c' 0 = p at *
              cases conn
              · go_wp2_with (go_at_call 16; refine H16.out.mono ?_; rintro e w' ⟨rfl, rfl⟩)
                go_ret
                exact ⟨rfl, HB3.out⟩
              · go_wp2_with (go_at_call 16; refine H16.out.mono ?_; rintro e w' ⟨rfl, rfl⟩)
                go_ret
                exact ⟨rfl, HB3.out⟩
            · rw [e1, e2, e0]
              clear e1 e2 e0
              generalize fi F c' 0 = p at *
              rcases e3 with ⟨e3, e4⟩ | ⟨rfl, rfl, rfl⟩
              · cases conn
                · clear e4
                  go_wp2_with (go_at_call 16; refine H16.out.mono ?_; rintro e w' ⟨rfl, rfl⟩)
                  go_ret
                  exact ⟨rfl, HB3.out⟩
                · have e5 : 0 ≤ p := by simpa using e4
                  clear e4
                  go_wp2_with (go_at_call 16; refine H16.out.mono ?_; rintro e w' ⟨rfl, rfl⟩)
                  go_ret
                  exact ⟨rfl, HB3.out⟩
              · go_wp2_with (go_at_call 16; refine H16.out.mono ?_; rintro e w' ⟨rfl, rfl⟩)
                go_ret
                exact ⟨rfl, HB3.out⟩
end Go.Proofs.Qxb6617202aMods
