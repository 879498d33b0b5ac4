/- 'FnIntTopBitFlipMovesByHalfRange': the walk. -/
import Derived.Test.Qxb6617080aModsWalkA
import Derived.Test.Qxb6617080aModsPlainB
namespace Go.Proofs.Qxb6617080aMods
open Go.RowKit Go.Deep
set_option linter.unusedVariables false

theorem Trym.size5 : (Trym.prog.info? 5).map (·.size) = some 1 := by kernel_rfl

theorem ret_true {p : Bool} (h : p = true) : Ending.returned (.bool p) = .returned (.bool true) := by rw [h]
theorem half_eq {v f : Int} {n : Nat} {k : Int} (h : Hid (v - f = (n : Int))) (hk : ((n : Nat) : Int) = k) (h0 : 0 ≤ k) (h1 : k ≤ 9223372036854775808) : (IntKind.u64.wrap (v - IntKind.u64.wrap f) == k) = true := by
  have g := h.out
  rw [hk] at g
  rw [beq_iff_eq, IntKind.wrap_u64, IntKind.wrap_u64]
  omega
theorem hide_half {a : Int} {n : Nat} (h : a = (n : Int)) : Hid (a = (n : Int)) := h

set_option maxHeartbeats 1600000 in
theorem flip_yes (b off len cap : Nat) (t : Int) (zs : List Int) (w : World) (hc : ∀ j, j < len → w.cell? ⟨b, off + j, none⟩ = some (.int .u8 (zs.getD j 0)))
    (ht : wid t = len) (hl : len = 1 ∨ len = 2 ∨ len = 3 ∨ len = 4 ∨ len = 8) (hzl : zs.length = len) (hbd : ∀ z ∈ zs, 0 ≤ z ∧ z ≤ 255) :
    Calls Trym.prog 4 #[.bool false, .bool false, .slice (some ⟨b, off, none⟩) len cap, .int .u8 t] w fun e w' => e = .returned (.bool true) ∧ Below w.heap.size w w' := by
  have hb : b < w.heap.size := World.block_lt_of_cell? w _ (hc 0 (by omega))
  have hmk := run_make_row' (P := Trym.prog) 22 5 (.int .u8 0) 1 Trym.underlying22 Trym.info5 rfl .i64 .i64 len (by omega) (by omega)
  have hnil := fun (wx : World) (a : Option Addr) (n c : Nat) => run_neq_slice_nil_any (P := Trym.prog) wx 22 5 a n c 0 0 Trym.underlying22
  obtain ⟨W1, hcp1, hrow1, hbel1⟩ := copy_fresh (P := Trym.prog) w b off len cap (fun j => .int .u8 (zs.getD j 0)) Trym.underlying22 Trym.size5 hb hc (fun _ => rfl)
  have hz1 : w.heap.size < W1.heap.size := hrow1.lt
  obtain ⟨W2, hcp2, hrow2, hbel2⟩ := copy_fresh (P := Trym.prog) W1 w.heap.size 0 len len (fun j => .int .u8 (zs.getD j 0)) Trym.underlying22 Trym.size5 hz1 (fun j hj => by rw [Nat.zero_add]; exact hrow1.cell hj) (fun _ => rfl)
  have hrow12 : W2.rowIs w.heap.size 5 len (fun j => .int .u8 (zs.getD j 0)) := hrow1.of_block (hbel2.block _ hz1)
  have hB2 : Below w.heap.size w W2 := hbel1.trans (hbel2.mono (by omega))
  have hz2 : W1.heap.size < W2.heap.size := hrow2.lt
  have R1 : Hid (W2.rowIs w.heap.size 5 len (fun j => .int .u8 (zs.getD j 0))) := hrow12
  have R2 : Hid (W2.rowIs W1.heap.size 5 len (fun j => .int .u8 (zs.getD j 0))) := hrow2
  have HB2 : Hid (Below w.heap.size w W2) := hB2
  have hlast : W2.cell? ⟨W1.heap.size, len - 1, none⟩ = some (.int .u8 (zs.getD (len - 1) 0)) := hrow2.cell (by omega)
  have hfro : W2.frozen? ⟨W1.heap.size, len - 1, none⟩ = false := hrow2.frozen _
  have HW : Hid (∀ w, Calls Trym.prog 9 #[.int .u8 t] w fun e w' => e = .returned (.int .i64 len) ∧ w = w') := by
    have := width9 t
    rw [ht] at this
    exact this
  have hpos : (1 : Int) ≤ (len : Int) := by omega
  have h8 : len ≤ 8 := by omega
  clear hrow1 hbel1 hrow2 hbel2 hrow12 hB2 hc hb
  go_enter Trym.func4, Trym.ntmps4
  go_wp2_with (first
    | (go_at_call 11; refine (bytes11 _ _ _ _ _ _ _ (by omega)).mono ?_; rintro e w' ⟨rfl, rfl⟩)
    | (go_at_call 9; refine (HW.out _).mono ?_; rintro e w' ⟨rfl, rfl⟩))
  have hxb := getD_bd hbd (j := len - 1) (by omega)
  have hx : zs[len - 1]?.getD 0 = zs.getD (len - 1) 0 := by simp [List.getD]
  have R1' := R1.out.setOther (a := ⟨W1.heap.size, len - 1, none⟩) (by exact (Nat.ne_of_lt hz1)) (.int .u8 (bits .xor .u8 (zs[len - 1]?.getD 0) 128))
  have R2' := R2.out.set (len - 1) (.int .u8 (bits .xor .u8 (zs[len - 1]?.getD 0) 128))
  have HB3 := HB2.out.setCell (p := ⟨W1.heap.size, len - 1, none⟩) (Nat.le_of_lt hz1) (.int .u8 (bits .xor .u8 (zs[len - 1]?.getD 0) 128))
  have hz3 : W1.heap.size < (W2.setCell ⟨W1.heap.size, len - 1, none⟩ (.int .u8 (bits .xor .u8 (zs[len - 1]?.getD 0) 128))).heap.size := R2'.lt
  rw [hx, xor_flip _ hxb.1 hxb.2] at R1' R2' HB3 hz3 ⊢
  obtain ⟨zs', hzs'⟩ : ∃ zs', zs' = zs.set (len - 1) (flip1 (zs.getD (len - 1) 0)) := ⟨_, rfl⟩
  have hzl' : zs'.length = len := by rw [hzs']; simpa using hzl
  have hbd' : ∀ z ∈ zs', 0 ≤ z ∧ z ≤ 255 := by rw [hzs']; exact set_bd hbd (flip1_bd _ hxb.1 hxb.2) _
  have R2'' : (W2.setCell ⟨W1.heap.size, len - 1, none⟩ (.int .u8 (flip1 (zs.getD (len - 1) 0)))).rowIs W1.heap.size 5 len (fun j => .int .u8 (zs'.getD j 0)) := by
    refine R2'.congr ?_
    intro i hi
    rw [hzs']
    by_cases e : i = len - 1
    · subst e
      have : len - 1 < zs.length := by omega
      simp [List.getD, this]
    · have e' : ¬ len - 1 = i := fun h => e h.symm
      simp [List.getD, e, e']
  generalize hW3 : W2.setCell ⟨W1.heap.size, len - 1, none⟩ (.int .u8 (flip1 (zs.getD (len - 1) 0))) = W3 at R1' HB3 hz3 R2'' ⊢
  clear hW3 R2' R1 R2 HB2 hcp1 hcp2 hlast hfro hx
  refine (make_cell _ _ _ _ _ _ _).mono ?_
  rintro e W4 ⟨rfl, hb4⟩
  have hz4 : W3.heap.size ≤ W4.heap.size := hb4.size
  have Q1 : W4.rowIs w.heap.size 5 len (fun j => .int .u8 (zs.getD j 0)) := R1'.of_block (hb4.block _ (by omega))
  have Q2 : W4.rowIs W1.heap.size 5 len (fun j => .int .u8 (zs'.getD j 0)) := R2''.of_block (hb4.block _ (by omega))
  have HB4 := HB3.trans (hb4.mono (by omega))
  clear R1' R2'' HB3 hb4
  have Q1H : Hid (W4.rowIs w.heap.size 5 len (fun j => .int .u8 (zs.getD j 0))) := Q1
  have Q2H : Hid (W4.rowIs W1.heap.size 5 len (fun j => .int .u8 (zs'.getD j 0))) := Q2
  have HB4H : Hid (Below w.heap.size w W4) := HB4
  have HZ' : Hid (zs' = zs.set (len - 1) (flip1 (zs.getD (len - 1) 0))) := hzs'
  have HZL : Hid (zs.length = len) := hzl
  have HZL' : Hid (zs'.length = len) := hzl'
  have HT : Hid (wid t = len) := ht
  have HL : Hid (len = 1 ∨ len = 2 ∨ len = 3 ∨ len = 4 ∨ len = 8) := hl
  clear Q1 Q2 HB4 hzs' hzl hzl' ht hmk hnil hl
  go_wp2_with fail
  refine (int_yes w.heap.size 0 len len t zs W4 HT.out HL.out HZL.out (fun j hj => by rw [Nat.zero_add]; exact Q1H.out.cell hj) hbd).mono ?_
  rintro e W5 ⟨rfl, hb5⟩
  have hz5 : W4.heap.size ≤ W5.heap.size := hb5.size
  have HB5 : Hid (Below w.heap.size w W5) := HB4H.out.trans (hb5.mono (by omega))
  have P1H : Hid (W5.rowIs w.heap.size 5 len (fun j => .int .u8 (zs.getD j 0))) := Q1H.out.of_block (hb5.block _ (by omega))
  have P2H : Hid (W5.rowIs W1.heap.size 5 len (fun j => .int .u8 (zs'.getD j 0))) := Q2H.out.of_block (hb5.block _ (by omega))
  clear hb5 Q1H Q2H HB4H
  go_wp2_with fail
  refine (make_cell _ _ _ _ _ _ _).mono ?_
  rintro e W6 ⟨rfl, hb6⟩
  have hz6 : W5.heap.size ≤ W6.heap.size := hb6.size
  have HB6 : Hid (Below w.heap.size w W6) := HB5.out.trans (hb6.mono (by omega))
  have Q1H : Hid (W6.rowIs w.heap.size 5 len (fun j => .int .u8 (zs.getD j 0))) := P1H.out.of_block (hb6.block _ (by omega))
  have Q2H : Hid (W6.rowIs W1.heap.size 5 len (fun j => .int .u8 (zs'.getD j 0))) := P2H.out.of_block (hb6.block _ (by omega))
  clear hb6 P1H P2H HB5
  go_wp2_with fail
  refine (int_yes W1.heap.size 0 len len t zs' W6 HT.out HL.out HZL'.out (fun j hj => by rw [Nat.zero_add]; exact Q2H.out.cell hj) hbd').mono ?_
  rintro e W7 ⟨rfl, hb7⟩
  have HB7 : Hid (Below w.heap.size w W7) := HB6.out.trans (hb7.mono (by omega))
  have P1 : W7.cell? ⟨w.heap.size, len - 1, none⟩ = some (.int .u8 (zs.getD (len - 1) 0)) := (Q1H.out.of_block (hb7.block _ (by omega))).cell (by omega)
  clear hb7 Q1H Q2H HB6
  have HLAW := flip_law len zs HL.out HZL.out hbd (zs.getD (len - 1) 0) _ _ rfl rfl rfl
  rw [← HZ'.out] at HLAW
  clear hbd hbd' HZ' HZL HZL' HT HW hxb
  generalize sgn len (le zs) = v at HLAW ⊢
  generalize sgn len (le zs') = f at HLAW ⊢
  generalize zs.getD (len - 1) 0 = x at HLAW P1
  have hl := HL.out
  clear HL
  obtain ⟨⟨b1, b2, b3, b4⟩, HLAW⟩ := HLAW
  rcases HLAW with ⟨g1, g2, g3, g4⟩ | ⟨g1, g2, g3, g4⟩
  · rcases hl with rfl | rfl | rfl | rfl | rfl
    all_goals
      have G4 := hide_half g4
      clear g4
      go_wp2
      go_ret
      exact ⟨ret_true (half_eq G4 (by rfl) (by omega) (by omega)), HB7.out⟩
  · rcases hl with rfl | rfl | rfl | rfl | rfl
    all_goals
      have G4 := hide_half g4
      clear g4
      go_wp2
      go_ret
      exact ⟨ret_true (half_eq G4 (by rfl) (by omega) (by omega)), HB7.out⟩

/-- Why a cell is refused. -/
def Refused (ab nu : Bool) (len n : Nat) : Prop := ab = true ∨ (ab = false ∧ nu = true) ∨ (ab = false ∧ nu = false ∧ n = 0) ∨ (ab = false ∧ nu = false ∧ ¬ n = 0 ∧ len ≠ n)

set_option maxHeartbeats 1600000 in
/-- The rest of the law behind the copies, where the cell is refused: 'data' lies at 'a', 'flipped' at 'a2'. -/
theorem flip_no (ab nu : Bool) (b off len cap : Nat) (t : Int) (zs : List Int) (w : World) (hc : ∀ j, j < len → w.cell? ⟨b, off + j, none⟩ = some (.int .u8 (zs.getD j 0)))
    (h1 : 1 ≤ len) (h2 : len ≤ 65536) (hr : Refused ab nu len (wid t)) :
    Calls Trym.prog 4 #[.bool ab, .bool nu, .slice (some ⟨b, off, none⟩) len cap, .int .u8 t] w fun e w' => e = .returned (.bool true) ∧ Below w.heap.size w w' := by
  have hb : b < w.heap.size := World.block_lt_of_cell? w _ (hc 0 (by omega))
  have hmk := run_make_row' (P := Trym.prog) 22 5 (.int .u8 0) 1 Trym.underlying22 Trym.info5 rfl .i64 .i64 len (by omega) (by omega)
  have hnil := fun (wx : World) (a : Option Addr) (n c : Nat) => run_neq_slice_nil_any (P := Trym.prog) wx 22 5 a n c 0 0 Trym.underlying22
  obtain ⟨W1, hcp1, hrow1, hbel1⟩ := copy_fresh (P := Trym.prog) w b off len cap (fun j => .int .u8 (zs.getD j 0)) Trym.underlying22 Trym.size5 hb hc (fun _ => rfl)
  have hz1 : w.heap.size < W1.heap.size := hrow1.lt
  obtain ⟨W2, hcp2, hrow2, hbel2⟩ := copy_fresh (P := Trym.prog) W1 w.heap.size 0 len len (fun j => .int .u8 (zs.getD j 0)) Trym.underlying22 Trym.size5 hz1 (fun j hj => by rw [Nat.zero_add]; exact hrow1.cell hj) (fun _ => rfl)
  have hz2 : W1.heap.size < W2.heap.size := hrow2.lt
  have HB2 : Hid (Below w.heap.size w W2) := hbel1.trans (hbel2.mono (by omega))
  have hlast : W2.cell? ⟨W1.heap.size, len - 1, none⟩ = some (.int .u8 (zs.getD (len - 1) 0)) := hrow2.cell (by omega)
  have hfro : W2.frozen? ⟨W1.heap.size, len - 1, none⟩ = false := hrow2.frozen _
  have HN : Hid (∀ a c w, Calls Trym.prog 7 #[.agg #[.bool ab, .bool nu, .slice a len c, .int .u8 t]] w fun e w' => e = .returned (.tuple #[.int .i64 0, .bool false]) ∧ Below w.heap.size w w') := fun a c w => int_no ab nu a len c t w (by omega) hr
  have HW : Hid (∀ w, Calls Trym.prog 9 #[.int .u8 t] w fun e w' => e = .returned (.int .i64 (wid t)) ∧ w = w') := width9 t
  generalize wid t = n at hr HW
  have HR : Hid (Refused ab nu len n) := hr
  have hpos : (1 : Int) ≤ (len : Int) := by omega
  clear hrow1 hbel1 hrow2 hbel2 hc hb hr
  go_enter Trym.func4, Trym.ntmps4
  go_wp2_with (first
    | (go_at_call 11; refine (bytes11 _ _ _ _ _ _ _ (by omega)).mono ?_; rintro e w' ⟨rfl, rfl⟩)
    | (go_at_call 9; refine (HW.out _).mono ?_; rintro e w' ⟨rfl, rfl⟩))
  have HB3 := HB2.out.setCell (p := ⟨W1.heap.size, len - 1, none⟩) (Nat.le_of_lt hz1) (.int .u8 (bits .xor .u8 (zs[len - 1]?.getD 0) 128))
  have hz3 : w.heap.size < (W2.setCell ⟨W1.heap.size, len - 1, none⟩ (.int .u8 (bits .xor .u8 (zs[len - 1]?.getD 0) 128))).heap.size := by simp [World.setCell]; omega
  generalize hW3 : W2.setCell ⟨W1.heap.size, len - 1, none⟩ (.int .u8 (bits .xor .u8 (zs[len - 1]?.getD 0) 128)) = W3 at HB3 hz3 ⊢
  clear hW3 hcp1 hcp2 hlast hfro
  refine (make_cell _ _ _ _ _ _ _).mono ?_
  rintro e W4 ⟨rfl, hb4⟩
  have hz4 : W3.heap.size ≤ W4.heap.size := hb4.size
  have HB4 : Hid (Below w.heap.size w W4) := HB3.trans (hb4.mono (by omega))
  clear HB3 hb4
  go_wp2_with fail
  refine (HN.out _ _ _).mono ?_
  rintro e W5 ⟨rfl, hb5⟩
  have hz5 : W4.heap.size ≤ W5.heap.size := hb5.size
  have HB5 : Hid (Below w.heap.size w W5) := HB4.out.trans (hb5.mono (by omega))
  clear hb5 HB4
  go_wp2_with fail
  refine (make_cell _ _ _ _ _ _ _).mono ?_
  rintro e W6 ⟨rfl, hb6⟩
  have hz6 : W5.heap.size ≤ W6.heap.size := hb6.size
  have HB6 : Hid (Below w.heap.size w W6) := HB5.out.trans (hb6.mono (by omega))
  clear hb6 HB5
  go_wp2_with fail
  refine (HN.out _ _ _).mono ?_
  rintro e W7 ⟨rfl, hb7⟩
  have HB7 : Hid (Below w.heap.size w W7) := HB6.out.trans (hb7.mono (by omega))
  clear hb7 HB6 HN
  have hr := HR.out
  clear HR HW
  rcases hr with rfl | ⟨rfl, rfl⟩ | ⟨rfl, rfl, rfl⟩ | ⟨rfl, rfl, g1, g2⟩
  · go_wp2
    go_ret
    exact ⟨rfl, HB7.out⟩
  · go_wp2
    go_ret
    exact ⟨rfl, HB7.out⟩
  · go_wp2
    go_ret
    exact ⟨rfl, HB7.out⟩
  · have e1 : ((n : Int) == 0) = false := by rw [beq_eq_false_iff_ne]; omega
    have e2 : ((len : Int) != (n : Int)) = true := by rw [bne_iff_ne]; omega
    clear g1 g2
    go_wp2
    go_ret
    exact ⟨rfl, HB7.out⟩
end Go.Proofs.Qxb6617080aMods
