/- 'FnIntTopBitFlipMovesByHalfRange': the walk at no bytes, and at too many. -/
import Derived.Test.Qxb6617080aModsWalkB
namespace Go.Proofs.Qxb6617080aMods
open Go.RowKit Go.Deep
set_option linter.unusedVariables false

theorem make0 (w : World) : (Instr.makeSlice 22 (.int .i64 0) (.int .i64 0)).run Trym.prog w = .ok (.slice (some ⟨w.heap.size, 0, none⟩) 0 0) (w.alloc (.cells #[] 5)) := by kernel_rfl
theorem copy0 (w : World) (dp sp : Option Addr) (dc sc : Nat) : (Builtin.copy_ #[22, 22] 3 #[.slice dp 0 dc, .slice sp 0 sc]).run Trym.prog w = .ok (.int .i64 0) w :=
  run_copy_none (P := Trym.prog) w 22 22 3 5 dp sp 0 dc 0 sc Trym.underlying22 Trym.size5 rfl

set_option maxHeartbeats 1600000 in
theorem flip_empty (ab nu : Bool) (x : Addr) (cap : Nat) (t : Int) (w : World) :
    Calls Trym.prog 4 #[.bool ab, .bool nu, .slice (some x) 0 cap, .int .u8 t] w fun e w' => e = .returned (.bool true) ∧ Below w.heap.size w w' := by
  have hr : Refused ab nu 0 (wid t) := by
    unfold Refused
    cases ab <;> cases nu <;> simp
    omega
  have hmk := make0
  have hcp := copy0
  have hnil := fun (wx : World) (a : Option Addr) (n c : Nat) => run_neq_slice_nil_any (P := Trym.prog) wx 22 5 a n c 0 0 Trym.underlying22
  have HN : Hid (∀ a c w, Calls Trym.prog 7 #[.agg #[.bool ab, .bool nu, .slice a 0 c, .int .u8 t]] w fun e w' => e = .returned (.tuple #[.int .i64 0, .bool false]) ∧ Below w.heap.size w w') := fun a c w => int_no ab nu a 0 c t w (by omega) hr
  have HW : Hid (∀ w, Calls Trym.prog 9 #[.int .u8 t] w fun e w' => e = .returned (.int .i64 (wid t)) ∧ w = w') := width9 t
  generalize wid t = n at hr HW
  have HR : Hid (Refused ab nu 0 n) := hr
  clear hr
  go_enter Trym.func4, Trym.ntmps4
  go_wp2_with (first
    | (go_at_call 11; refine (bytes11 _ _ _ _ _ _ _ (by omega)).mono ?_; rintro e w' ⟨rfl, rfl⟩)
    | (go_at_call 9; refine (HW.out _).mono ?_; rintro e w' ⟨rfl, rfl⟩))
  refine (make_cell _ _ _ _ _ _ _).mono ?_
  rintro e W4 ⟨rfl, hb4⟩
  have HB4 : Hid (Below w.heap.size w W4) := (((Below.refl _ _).alloc (Nat.le_refl _) _).alloc (by simp) _).trans (hb4.mono (by simp; omega))
  have hz4 : w.heap.size ≤ W4.heap.size := HB4.out.size
  clear hb4 hcp hmk
  go_wp2_with fail
  refine (HN.out _ _ _).mono ?_
  rintro e W5 ⟨rfl, hb5⟩
  have hz5 : W4.heap.size ≤ W5.heap.size := hb5.size
  have HB5 : Hid (Below w.heap.size w W5) := HB4.out.trans (hb5.mono (by omega))
  clear hb5 HB4
  go_wp2_with fail
  refine (make_cell _ _ _ _ _ _ _).mono ?_
  rintro e W6 ⟨rfl, hb6⟩
  have hz6 : W5.heap.size ≤ W6.heap.size := hb6.size
  have HB6 : Hid (Below w.heap.size w W6) := HB5.out.trans (hb6.mono (by omega))
  clear hb6 HB5
  go_wp2_with fail
  refine (HN.out _ _ _).mono ?_
  rintro e W7 ⟨rfl, hb7⟩
  have HB7 : Hid (Below w.heap.size w W7) := HB6.out.trans (hb7.mono (by omega))
  clear hb7 HB6 HN
  have hr := HR.out
  clear HR HW
  rcases hr with rfl | ⟨rfl, rfl⟩ | ⟨rfl, rfl, rfl⟩ | ⟨rfl, rfl, g1, g2⟩
  · go_wp2
    go_ret
    exact ⟨rfl, HB7.out⟩
  · go_wp2
    go_ret
    exact ⟨rfl, HB7.out⟩
  · go_wp2
    go_ret
    exact ⟨rfl, HB7.out⟩
  · have e1 : ((n : Int) == 0) = false := by rw [beq_eq_false_iff_ne]; omega
    have e2 : ((0 : Int) != (n : Int)) = true := by rw [bne_iff_ne]; omega
    clear g1 g2
    go_wp2
    go_ret
    exact ⟨rfl, HB7.out⟩

set_option maxHeartbeats 1600000 in
theorem flip_nil (ab nu : Bool)  (t : Int) (w : World) :
    Calls Trym.prog 4 #[.bool ab, .bool nu, .slice none 0 0, .int .u8 t] w fun e w' => e = .returned (.bool true) ∧ Below w.heap.size w w' := by
  have hr : Refused ab nu 0 (wid t) := by
    unfold Refused
    cases ab <;> cases nu <;> simp
    omega
  have hmk := make0
  have hcp := copy0
  have hnil := fun (wx : World) (a : Option Addr) (n c : Nat) => run_neq_slice_nil_any (P := Trym.prog) wx 22 5 a n c 0 0 Trym.underlying22
  have HN : Hid (∀ a c w, Calls Trym.prog 7 #[.agg #[.bool ab, .bool nu, .slice a 0 c, .int .u8 t]] w fun e w' => e = .returned (.tuple #[.int .i64 0, .bool false]) ∧ Below w.heap.size w w') := fun a c w => int_no ab nu a 0 c t w (by omega) hr
  have HW : Hid (∀ w, Calls Trym.prog 9 #[.int .u8 t] w fun e w' => e = .returned (.int .i64 (wid t)) ∧ w = w') := width9 t
  generalize wid t = n at hr HW
  have HR : Hid (Refused ab nu 0 n) := hr
  clear hr
  go_enter Trym.func4, Trym.ntmps4
  go_wp2_with (first
    | (go_at_call 11; refine (bytes11 _ _ _ _ _ _ _ (by omega)).mono ?_; rintro e w' ⟨rfl, rfl⟩)
    | (go_at_call 9; refine (HW.out _).mono ?_; rintro e w' ⟨rfl, rfl⟩))
  refine (make_cell _ _ _ _ _ _ _).mono ?_
  rintro e W4 ⟨rfl, hb4⟩
  have HB4 : Hid (Below w.heap.size w W4) := ((Below.refl _ _).alloc (Nat.le_refl _) _).trans (hb4.mono (by simp))
  have hz4 : w.heap.size ≤ W4.heap.size := HB4.out.size
  clear hb4 hcp hmk
  go_wp2_with fail
  refine (HN.out _ _ _).mono ?_
  rintro e W5 ⟨rfl, hb5⟩
  have hz5 : W4.heap.size ≤ W5.heap.size := hb5.size
  have HB5 : Hid (Below w.heap.size w W5) := HB4.out.trans (hb5.mono (by omega))
  clear hb5 HB4
  go_wp2_with fail
  refine (make_cell _ _ _ _ _ _ _).mono ?_
  rintro e W6 ⟨rfl, hb6⟩
  have hz6 : W5.heap.size ≤ W6.heap.size := hb6.size
  have HB6 : Hid (Below w.heap.size w W6) := HB5.out.trans (hb6.mono (by omega))
  clear hb6 HB5
  go_wp2_with fail
  refine (HN.out _ _ _).mono ?_
  rintro e W7 ⟨rfl, hb7⟩
  have HB7 : Hid (Below w.heap.size w W7) := HB6.out.trans (hb7.mono (by omega))
  clear hb7 HB6 HN
  have hr := HR.out
  clear HR HW
  rcases hr with rfl | ⟨rfl, rfl⟩ | ⟨rfl, rfl, rfl⟩ | ⟨rfl, rfl, g1, g2⟩
  · go_wp2
    go_ret
    exact ⟨rfl, HB7.out⟩
  · go_wp2
    go_ret
    exact ⟨rfl, HB7.out⟩
  · go_wp2
    go_ret
    exact ⟨rfl, HB7.out⟩
  · have e1 : ((n : Int) == 0) = false := by rw [beq_eq_false_iff_ne]; omega
    have e2 : ((0 : Int) != (n : Int)) = true := by rw [bne_iff_ne]; omega
    clear g1 g2
    go_wp2
    go_ret
    exact ⟨rfl, HB7.out⟩

theorem flip_long (ab nu : Bool) (a : Option Addr) (len cap : Nat) (t : Int) (w : World) (h : 65536 < len) (hm : len ≤ maxLen) :
    Calls Trym.prog 4 #[.bool ab, .bool nu, .slice a len cap, .int .u8 t] w fun e w' => e = .returned (.bool true) ∧ Below w.heap.size w w' := by
  unfold maxLen at hm
  by_cases h1 : len ≤ 1048576
  · go_enter Trym.func4, Trym.ntmps4
    go_wp2_with (go_at_call 11; refine (bytes11 _ _ _ _ _ _ _ (by omega)).mono ?_; rintro e w' ⟨rfl, rfl⟩)
    go_ret
    exact ⟨rfl, Below.refl _ _⟩
  · go_enter Trym.func4, Trym.ntmps4
    go_wp2_with (go_at_call 11; refine (bytes11_no _ _ _ _ _ _ _ (by omega)).mono ?_; rintro e w' ⟨rfl, rfl⟩)
    go_ret
    exact ⟨rfl, Below.refl _ _⟩
end Go.Proofs.Qxb6617080aMods
