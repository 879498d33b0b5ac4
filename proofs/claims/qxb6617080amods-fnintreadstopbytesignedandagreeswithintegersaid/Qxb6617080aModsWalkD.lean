/- 'FnIntReadsTopByteSignedAndAgreesWithInteger': the walk. -/
import Derived.Test.Qxb6617080aModsWalkC
import Derived.Test.Qxb6617080aModsPlainC
namespace Go.Proofs.Qxb6617080aMods
open Go.RowKit Go.Deep
set_option linter.unusedVariables false

set_option maxHeartbeats 400000 in
theorem digits_yes (b off len cap : Nat) (zs : List Int) (w : World) (hl : len = 1 ∨ len = 2 ∨ len = 3 ∨ len = 4 ∨ len = 8) (hzl : zs.length = len)
    (hc : ∀ j, j < len → w.cell? ⟨b, off + j, none⟩ = some (.int .u8 (zs.getD j 0))) (hbd : ∀ z ∈ zs, 0 ≤ z ∧ z ≤ 255) :
    Calls Trym.prog 10 #[.slice (some ⟨b, off, none⟩) len cap] w fun e w' => e = .returned (.int .i64 (sgn len (le zs))) ∧ w = w' := by
  have hcl := hc (len - 1) (by omega)
  have HE : Hid (wrap64 (le (zs.take (len - 1)) + wrap64 (wrap64 (IntKind.i8.wrap (zs[len - 1]?.getD 0)) * p256 (len - 1))) = sgn len (le zs)) := dig_end len zs hl hzl hbd
  have h1 : 1 ≤ len := by omega
  have h8 : len ≤ 8 := by omega
  have HV : Hid (∀ k, k < len - 1 → wrap64 (le (zs.take k) + wrap64 (wrap64 (zs[k]?.getD 0) * p256 k)) = le (zs.take (k + 1))) := fun k hk => dig_v zs k (by omega) (by omega) hbd
  clear hl hzl hbd
  go_enter Trym.func10, Trym.ntmps10
  go_wp2
  go_loop [3, 4, 6] (fun v p i => ∃ k : Nat, k ≤ len - 1 ∧ i = .int .i64 k ∧ p = .int .i64 (p256 k) ∧ v = .int .i64 (le (zs.take k))) (fun _ _ i => len - (intOf i).toNat)
  case atStart => exact ⟨0, Nat.zero_le _, rfl, rfl, rfl⟩
  case round =>
    obtain ⟨k, hk, rfl, rfl, rfl⟩ := hrel
    by_cases hlt : k < len - 1
    · have hck := hc k (by omega)
      go_wp2
      go_round
      case rel => exact ⟨k + 1, by omega, by go_num, by rw [dig_p k (by omega)], by rw [HV.out k hlt]⟩
      case measure => simp [intOf]; omega
    · have hk0 : k = len - 1 := by omega
      subst hk0
      go_wp2
      go_ret
      exact ⟨ret_int HE.out, rfl⟩

/-- A box of four cells, behind a call that keeps what was there. -/
theorem box4 {W W5 : World} {a b c d : Value} (hb : Below (W.alloc (.cells #[a, b, c, d] 25)).heap.size (W.alloc (.cells #[a, b, c, d] 25)) W5) :
    W5.cell? ⟨W.heap.size, 0, none⟩ = some a ∧ W5.cell? ⟨W.heap.size, 1, none⟩ = some b ∧ W5.cell? ⟨W.heap.size, 2, none⟩ = some c ∧ W5.cell? ⟨W.heap.size, 3, none⟩ = some d := by
  have hlt : W.heap.size < (W.alloc (.cells #[a, b, c, d] 25)).heap.size := by simp
  refine ⟨?_, ?_, ?_, ?_⟩ <;> rw [hb.cell (by exact hlt)] <;> unfold World.cell? <;> rw [heap_alloc_new] <;> rfl

theorem mask_fin (len : Nat) (u v k : Int) (hl : 8 * len ≤ 64) (h3 : Hid (0 ≤ u ∧ u + 1 ≤ ((256 ^ len : Nat) : Int))) (h4 : Hid (v = u ∨ v = u - ((2 ^ (8 * len) : Nat) : Int))) (hk : ((2 ^ (8 * len) - 1 : Nat) : Int) = k) :
    (bits .and .u64 (IntKind.u64.wrap v) k == u) = true := by
  have e : (256 : Nat) ^ len = 2 ^ (8 * len) := by rw [Nat.pow_mul]
  have h := h3.out
  rw [e] at h
  rw [beq_iff_eq, ← hk]
  exact mask_eq (8 * len) _ u v hl h.1 (by omega) rfl h4.out

set_option maxHeartbeats 1600000 in
theorem reads_yes (b off len cap : Nat) (t : Int) (zs : List Int) (w : World) (hc : ∀ j, j < len → w.cell? ⟨b, off + j, none⟩ = some (.int .u8 (zs.getD j 0)))
    (ht : wid t = len) (hl : len = 1 ∨ len = 2 ∨ len = 3 ∨ len = 4 ∨ len = 8) (hzl : zs.length = len) (hbd : ∀ z ∈ zs, 0 ≤ z ∧ z ≤ 255) :
    Calls Trym.prog 3 #[.bool false, .bool false, .slice (some ⟨b, off, none⟩) len cap, .int .u8 t] w fun e w' => e = .returned (.bool true) ∧ Below w.heap.size w w' := by
  have hb : b < w.heap.size := World.block_lt_of_cell? w _ (hc 0 (by omega))
  have hmk := run_make_row' (P := Trym.prog) 22 5 (.int .u8 0) 1 Trym.underlying22 Trym.info5 rfl .i64 .i64 len (by omega) (by omega)
  have hnil := fun (wx : World) (a : Option Addr) (n c : Nat) => run_neq_slice_nil_any (P := Trym.prog) wx 22 5 a n c 0 0 Trym.underlying22
  obtain ⟨W1, hcp1, hrow1, hbel1⟩ := copy_fresh (P := Trym.prog) w b off len cap (fun j => .int .u8 (zs.getD j 0)) Trym.underlying22 Trym.size5 hb hc (fun _ => rfl)
  have hz1 : w.heap.size < W1.heap.size := hrow1.lt
  have R1 : Hid (W1.rowIs w.heap.size 5 len (fun j => .int .u8 (zs.getD j 0))) := hrow1
  have HB1 : Hid (Below w.heap.size w W1) := hbel1
  have HW : Hid (∀ w, Calls Trym.prog 9 #[.int .u8 t] w fun e w' => e = .returned (.int .i64 len) ∧ w = w') := by
    have := width9 t
    rw [ht] at this
    exact this
  have hpos : (1 : Int) ≤ (len : Int) := by omega
  have h8 : len ≤ 8 := by omega
  have HL : Hid (len = 1 ∨ len = 2 ∨ len = 3 ∨ len = 4 ∨ len = 8) := hl
  have HZL : Hid (zs.length = len) := hzl
  have HT : Hid (wid t = len) := ht
  clear hrow1 hbel1 hc hb hl hzl ht
  go_enter Trym.func3, Trym.ntmps3
  go_wp2_with (first
    | (go_at_call 5; refine (bytes5 _ _ _ _ _ _ _ (by omega)).mono ?_; rintro e w' ⟨rfl, rfl⟩))
  refine (make_cell _ _ _ _ _ _ _).mono ?_
  rintro e W4 ⟨rfl, hb4⟩
  have hz4 : W1.heap.size ≤ W4.heap.size := hb4.size
  have hz4' : w.heap.size < W4.heap.size := by omega
  have Q1 : Hid (W4.rowIs w.heap.size 5 len (fun j => .int .u8 (zs.getD j 0))) := R1.out.of_block (hb4.block _ (by omega))
  have HB4 : Hid (Below w.heap.size w W4) := HB1.out.trans (hb4.mono (by omega))
  clear R1 HB1 hb4 hcp1 hmk hnil
  go_wp2_with fail
  refine (int_yes w.heap.size 0 len len t zs _ HT.out HL.out HZL.out (fun j hj => by rw [Nat.zero_add, World.cell?_alloc_lt _ _ _ (by exact hz4')]; exact Q1.out.cell hj) hbd).mono ?_
  rintro e W5 ⟨rfl, hb5⟩
  obtain ⟨k0, k1, k2, k3⟩ := box4 hb5
  have hz5 : W4.heap.size < W5.heap.size := by have := hb5.size; simp at this; omega
  have hz5' : w.heap.size < W5.heap.size := by omega
  have HB5 : Hid (Below w.heap.size w W5) := (HB4.out.alloc (by omega) _).trans (hb5.mono (by simp; omega))
  have P1 : Hid (W5.rowIs w.heap.size 5 len (fun j => .int .u8 (zs.getD j 0))) := (Q1.out.alloc _).of_block (hb5.block _ (by simp; omega))
  clear hb5 Q1 HB4
  go_wp2_with fail
  refine (zinteger_yes w.heap.size 0 len len t zs W5 (by omega) (by omega) HT.out HZL.out (fun j hj => by rw [Nat.zero_add]; exact P1.out.cell hj) hbd).mono ?_
  rintro e W6 ⟨rfl, hb6⟩
  have HB6 : Hid (Below w.heap.size w W6) := HB5.out.trans (hb6.mono (by omega))
  have Q1 : Hid (W6.rowIs w.heap.size 5 len (fun j => .int .u8 (zs.getD j 0))) := P1.out.of_block (hb6.block _ (by omega))
  clear hb6 P1 HB5 k0 k1 k2 k3
  have HD : Hid (Calls Trym.prog 10 #[.slice (some ⟨w.heap.size, 0, none⟩) len len] W6 fun e w' => e = .returned (.int .i64 (sgn len (le zs))) ∧ W6 = w') :=
    digits_yes w.heap.size 0 len len zs W6 HL.out HZL.out (fun j hj => by rw [Nat.zero_add]; exact Q1.out.cell hj) hbd
  have hbd2 := le_bd zs hbd
  rw [HZL.out] at hbd2
  have hsg := sgn_or len (le zs)
  have H3 : Hid (0 ≤ le zs ∧ le zs + 1 ≤ ((256 ^ len : Nat) : Int)) := hbd2
  have H4 : Hid (sgn len (le zs) = le zs ∨ sgn len (le zs) = le zs - ((2 ^ (8 * len) : Nat) : Int)) := hsg
  clear hbd2 hsg Q1 hbd HZL HT
  generalize sgn len (le zs) = v at HD H4 ⊢
  generalize le zs = u at H3 H4 ⊢
  have hl := HL.out
  clear HL
  rcases hl with rfl | rfl | rfl | rfl | rfl
  all_goals
    go_wp2_with (first | (go_at_call 9; refine (HW.out _).mono ?_; rintro e w' ⟨rfl, rfl⟩) | (go_at_call 10; refine HD.out.mono ?_; rintro e w' ⟨rfl, rfl⟩))
    go_ret
    exact ⟨ret_true (mask_fin _ u v _ (by omega) H3 H4 (by rfl)), HB6.out⟩

set_option maxHeartbeats 1600000 in
theorem reads_no (ab nu : Bool) (b off len cap : Nat) (t : Int) (zs : List Int) (w : World) (hc : ∀ j, j < len → w.cell? ⟨b, off + j, none⟩ = some (.int .u8 (zs.getD j 0)))
    (h1 : 1 ≤ len) (h2 : len ≤ 65536) (hr : Refused ab nu len (wid t)) :
    Calls Trym.prog 3 #[.bool ab, .bool nu, .slice (some ⟨b, off, none⟩) len cap, .int .u8 t] w fun e w' => e = .returned (.bool true) ∧ Below w.heap.size w w' := by
  have hb : b < w.heap.size := World.block_lt_of_cell? w _ (hc 0 (by omega))
  have hmk := run_make_row' (P := Trym.prog) 22 5 (.int .u8 0) 1 Trym.underlying22 Trym.info5 rfl .i64 .i64 len (by omega) (by omega)
  obtain ⟨W1, hcp, hrow1, hbel1⟩ := copy_fresh (P := Trym.prog) w b off len cap (fun j => .int .u8 (zs.getD j 0)) Trym.underlying22 Trym.size5 hb hc (fun _ => rfl)
  have HB1 : Hid (Below w.heap.size w W1) := hbel1
  have hz1 : w.heap.size < W1.heap.size := hrow1.lt
  clear hrow1 hbel1 hc hb
  have hnil := fun (wx : World) (a : Option Addr) (n c : Nat) => run_neq_slice_nil_any (P := Trym.prog) wx 22 5 a n c 0 0 Trym.underlying22
  have HN : Hid (∀ a c w, Calls Trym.prog 7 #[.agg #[.bool ab, .bool nu, .slice a len c, .int .u8 t]] w fun e w' => e = .returned (.tuple #[.int .i64 0, .bool false]) ∧ Below w.heap.size w w') := fun a c w => int_no ab nu a len c t w (by omega) hr
  have HZ : Hid (∀ a c w, Calls Trym.prog 8 #[.agg #[.bool ab, .bool nu, .slice a len c, .int .u8 t]] w fun e w' => e = .returned (.tuple #[.int .u64 0, .int .i64 0]) ∧ Below w.heap.size w w') := fun a c w => zinteger_no ab nu a len c t w (by omega) hr
  have HW : Hid (∀ w, Calls Trym.prog 9 #[.int .u8 t] w fun e w' => e = .returned (.int .i64 (wid t)) ∧ w = w') := width9 t
  generalize wid t = n at hr HW
  have HR : Hid (Refused ab nu len n) := hr
  clear hr
  go_enter Trym.func3, Trym.ntmps3
  go_wp2_with (go_at_call 5; refine (bytes5 _ _ _ _ _ _ _ (by omega)).mono ?_; rintro e w' ⟨rfl, rfl⟩)
  refine (make_cell _ _ _ _ _ _ _).mono ?_
  rintro e W4 ⟨rfl, hb4⟩
  have HB4 : Hid (Below w.heap.size w W4) := HB1.out.trans (hb4.mono (by omega))
  have hz4 : w.heap.size ≤ W4.heap.size := HB4.out.size
  clear hb4 hcp hmk hnil
  go_wp2_with fail
  refine (HN.out _ _ _).mono ?_
  rintro e W5 ⟨rfl, hb5⟩
  obtain ⟨k0, k1, k2, k3⟩ := box4 hb5
  have hz5 : W4.heap.size < W5.heap.size := by have := hb5.size; simp at this; omega
  have HB5 : Hid (Below w.heap.size w W5) := (HB4.out.alloc (by omega) _).trans (hb5.mono (by simp; omega))
  clear hb5 HB4
  go_wp2_with fail
  refine (HZ.out _ _ _).mono ?_
  rintro e W6 ⟨rfl, hb6⟩
  have HB6 : Hid (Below w.heap.size w W6) := HB5.out.trans (hb6.mono (by omega))
  clear hb6 HB5 k0 k1 k2 k3 HN HZ
  have hr := HR.out
  clear HR
  rcases hr with rfl | ⟨rfl, rfl⟩ | ⟨rfl, rfl, rfl⟩ | ⟨rfl, rfl, g1, g2⟩
  · go_wp2_with (go_at_call 9; refine (HW.out _).mono ?_; rintro e w' ⟨rfl, rfl⟩)
    go_ret
    exact ⟨rfl, HB6.out⟩
  · go_wp2_with (go_at_call 9; refine (HW.out _).mono ?_; rintro e w' ⟨rfl, rfl⟩)
    go_ret
    exact ⟨rfl, HB6.out⟩
  · go_wp2_with (go_at_call 9; refine (HW.out _).mono ?_; rintro e w' ⟨rfl, rfl⟩)
    go_ret
    exact ⟨rfl, HB6.out⟩
  · have e1 : ((n : Int) == 0) = false := by rw [beq_eq_false_iff_ne]; omega
    have e2 : ((len : Int) != (n : Int)) = true := by rw [bne_iff_ne]; omega
    clear g1 g2
    go_wp2_with (go_at_call 9; refine (HW.out _).mono ?_; rintro e w' ⟨rfl, rfl⟩)
    go_ret
    exact ⟨rfl, HB6.out⟩

set_option maxHeartbeats 1600000 in
theorem reads_empty (ab nu : Bool) (x : Addr) (cap : Nat) (t : Int) (w : World) :
    Calls Trym.prog 3 #[.bool ab, .bool nu, .slice (some x) 0 cap, .int .u8 t] w fun e w' => e = .returned (.bool true) ∧ Below w.heap.size w w' := by
  have hr : Refused ab nu 0 (wid t) := by
    unfold Refused
    cases ab <;> cases nu <;> simp
    omega
  have hmk := make0
  have hcp := copy0
  have hnil := fun (wx : World) (a : Option Addr) (n c : Nat) => run_neq_slice_nil_any (P := Trym.prog) wx 22 5 a n c 0 0 Trym.underlying22
  have HN : Hid (∀ a c w, Calls Trym.prog 7 #[.agg #[.bool ab, .bool nu, .slice a 0 c, .int .u8 t]] w fun e w' => e = .returned (.tuple #[.int .i64 0, .bool false]) ∧ Below w.heap.size w w') := fun a c w => int_no ab nu a 0 c t w (by omega) hr
  have HZ : Hid (∀ a c w, Calls Trym.prog 8 #[.agg #[.bool ab, .bool nu, .slice a 0 c, .int .u8 t]] w fun e w' => e = .returned (.tuple #[.int .u64 0, .int .i64 0]) ∧ Below w.heap.size w w') := fun a c w => zinteger_no ab nu a 0 c t w (by omega) hr
  have HW : Hid (∀ w, Calls Trym.prog 9 #[.int .u8 t] w fun e w' => e = .returned (.int .i64 (wid t)) ∧ w = w') := width9 t
  generalize wid t = n at hr HW
  have HR : Hid (Refused ab nu 0 n) := hr
  clear hr
  go_enter Trym.func3, Trym.ntmps3
  go_wp2_with (go_at_call 5; refine (bytes5 _ _ _ _ _ _ _ (by omega)).mono ?_; rintro e w' ⟨rfl, rfl⟩)
  refine (make_cell _ _ _ _ _ _ _).mono ?_
  rintro e W4 ⟨rfl, hb4⟩
  have HB4 : Hid (Below w.heap.size w W4) := ((Below.refl _ _).alloc (Nat.le_refl _) _).trans (hb4.mono (by simp))
  have hz4 : w.heap.size ≤ W4.heap.size := HB4.out.size
  clear hb4 hcp hmk hnil
  go_wp2_with fail
  refine (HN.out _ _ _).mono ?_
  rintro e W5 ⟨rfl, hb5⟩
  obtain ⟨k0, k1, k2, k3⟩ := box4 hb5
  have hz5 : W4.heap.size < W5.heap.size := by have := hb5.size; simp at this; omega
  have HB5 : Hid (Below w.heap.size w W5) := (HB4.out.alloc (by omega) _).trans (hb5.mono (by simp; omega))
  clear hb5 HB4
  go_wp2_with fail
  refine (HZ.out _ _ _).mono ?_
  rintro e W6 ⟨rfl, hb6⟩
  have HB6 : Hid (Below w.heap.size w W6) := HB5.out.trans (hb6.mono (by omega))
  clear hb6 HB5 k0 k1 k2 k3 HN HZ
  have hr := HR.out
  clear HR
  rcases hr with rfl | ⟨rfl, rfl⟩ | ⟨rfl, rfl, rfl⟩ | ⟨rfl, rfl, g1, g2⟩
  · go_wp2_with (go_at_call 9; refine (HW.out _).mono ?_; rintro e w' ⟨rfl, rfl⟩)
    go_ret
    exact ⟨rfl, HB6.out⟩
  · go_wp2_with (go_at_call 9; refine (HW.out _).mono ?_; rintro e w' ⟨rfl, rfl⟩)
    go_ret
    exact ⟨rfl, HB6.out⟩
  · go_wp2_with (go_at_call 9; refine (HW.out _).mono ?_; rintro e w' ⟨rfl, rfl⟩)
    go_ret
    exact ⟨rfl, HB6.out⟩
  · have e1 : ((n : Int) == 0) = false := by rw [beq_eq_false_iff_ne]; omega
    have e2 : ((0 : Int) != (n : Int)) = true := by rw [bne_iff_ne]; omega
    clear g1 g2
    go_wp2_with (go_at_call 9; refine (HW.out _).mono ?_; rintro e w' ⟨rfl, rfl⟩)
    go_ret
    exact ⟨rfl, HB6.out⟩

set_option maxHeartbeats 1600000 in
theorem reads_nil (ab nu : Bool) (t : Int) (w : World) :
    Calls Trym.prog 3 #[.bool ab, .bool nu, .slice none 0 0, .int .u8 t] w fun e w' => e = .returned (.bool true) ∧ Below w.heap.size w w' := by
  have hr : Refused ab nu 0 (wid t) := by
    unfold Refused
    cases ab <;> cases nu <;> simp
    omega
  have hmk := make0
  have hcp := copy0
  have hnil := fun (wx : World) (a : Option Addr) (n c : Nat) => run_neq_slice_nil_any (P := Trym.prog) wx 22 5 a n c 0 0 Trym.underlying22
  have HN : Hid (∀ a c w, Calls Trym.prog 7 #[.agg #[.bool ab, .bool nu, .slice a 0 c, .int .u8 t]] w fun e w' => e = .returned (.tuple #[.int .i64 0, .bool false]) ∧ Below w.heap.size w w') := fun a c w => int_no ab nu a 0 c t w (by omega) hr
  have HZ : Hid (∀ a c w, Calls Trym.prog 8 #[.agg #[.bool ab, .bool nu, .slice a 0 c, .int .u8 t]] w fun e w' => e = .returned (.tuple #[.int .u64 0, .int .i64 0]) ∧ Below w.heap.size w w') := fun a c w => zinteger_no ab nu a 0 c t w (by omega) hr
  have HW : Hid (∀ w, Calls Trym.prog 9 #[.int .u8 t] w fun e w' => e = .returned (.int .i64 (wid t)) ∧ w = w') := width9 t
  generalize wid t = n at hr HW
  have HR : Hid (Refused ab nu 0 n) := hr
  clear hr
  go_enter Trym.func3, Trym.ntmps3
  go_wp2_with (go_at_call 5; refine (bytes5 _ _ _ _ _ _ _ (by omega)).mono ?_; rintro e w' ⟨rfl, rfl⟩)
  refine (make_cell _ _ _ _ _ _ _).mono ?_
  rintro e W4 ⟨rfl, hb4⟩
  have HB4 : Hid (Below w.heap.size w W4) := hb4
  have hz4 : w.heap.size ≤ W4.heap.size := HB4.out.size
  clear hb4 hcp hmk hnil
  go_wp2_with fail
  refine (HN.out _ _ _).mono ?_
  rintro e W5 ⟨rfl, hb5⟩
  obtain ⟨k0, k1, k2, k3⟩ := box4 hb5
  have hz5 : W4.heap.size < W5.heap.size := by have := hb5.size; simp at this; omega
  have HB5 : Hid (Below w.heap.size w W5) := (HB4.out.alloc (by omega) _).trans (hb5.mono (by simp; omega))
  clear hb5 HB4
  go_wp2_with fail
  refine (HZ.out _ _ _).mono ?_
  rintro e W6 ⟨rfl, hb6⟩
  have HB6 : Hid (Below w.heap.size w W6) := HB5.out.trans (hb6.mono (by omega))
  clear hb6 HB5 k0 k1 k2 k3 HN HZ
  have hr := HR.out
  clear HR
  rcases hr with rfl | ⟨rfl, rfl⟩ | ⟨rfl, rfl, rfl⟩ | ⟨rfl, rfl, g1, g2⟩
  · go_wp2_with (go_at_call 9; refine (HW.out _).mono ?_; rintro e w' ⟨rfl, rfl⟩)
    go_ret
    exact ⟨rfl, HB6.out⟩
  · go_wp2_with (go_at_call 9; refine (HW.out _).mono ?_; rintro e w' ⟨rfl, rfl⟩)
    go_ret
    exact ⟨rfl, HB6.out⟩
  · go_wp2_with (go_at_call 9; refine (HW.out _).mono ?_; rintro e w' ⟨rfl, rfl⟩)
    go_ret
    exact ⟨rfl, HB6.out⟩
  · have e1 : ((n : Int) == 0) = false := by rw [beq_eq_false_iff_ne]; omega
    have e2 : ((0 : Int) != (n : Int)) = true := by rw [bne_iff_ne]; omega
    clear g1 g2
    go_wp2_with (go_at_call 9; refine (HW.out _).mono ?_; rintro e w' ⟨rfl, rfl⟩)
    go_ret
    exact ⟨rfl, HB6.out⟩

theorem reads_long (ab nu : Bool) (a : Option Addr) (len cap : Nat) (t : Int) (w : World) (h : 65536 < len) (hm : len ≤ maxLen) :
    Calls Trym.prog 3 #[.bool ab, .bool nu, .slice a len cap, .int .u8 t] w fun e w' => e = .returned (.bool true) ∧ Below w.heap.size w w' := by
  unfold maxLen at hm
  by_cases h1 : len ≤ 1048576
  · go_enter Trym.func3, Trym.ntmps3
    go_wp2_with (go_at_call 5; refine (bytes5 _ _ _ _ _ _ _ (by omega)).mono ?_; rintro e w' ⟨rfl, rfl⟩)
    go_ret
    exact ⟨rfl, Below.refl _ _⟩
  · go_enter Trym.func3, Trym.ntmps3
    go_wp2_with (go_at_call 5; refine (bytes5_no _ _ _ _ _ _ _ (by omega)).mono ?_; rintro e w' ⟨rfl, rfl⟩)
    go_ret
    exact ⟨rfl, Below.refl _ _⟩
end Go.Proofs.Qxb6617080aMods
