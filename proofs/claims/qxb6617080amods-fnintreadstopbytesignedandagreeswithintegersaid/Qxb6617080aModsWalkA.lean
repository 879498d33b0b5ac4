/- The walks of seat b6617080aM: the callees, each by a contract. -/
import Derived.Test.Qxb6617080aModsRows
import Derived.Test.Qxb6617080aModsPlain
import Derived.WalkKit
import Derived.WalkSpells
import Derived.WalkLawsBesides
import Derived.Deep.OwnRows
import Derived.Deep.QuietTactic
import Derived.BigQuiet
namespace Go.Proofs.Qxb6617080aMods
open Go.RowKit Go.Deep
set_option linter.unusedVariables false

theorem Trym.info5 : (Trym.prog.info? 5).map (fun i => (i.zero, i.size, i.bytes)) = some (some (.int .u8 0), 1, 1) := by kernel_rfl

theorem ret_int {k : IntKind} {a b : Int} (h : a = b) : Ending.returned (.int k a) = .returned (.int k b) := by rw [h]

/-- The width of an integer column's type. -/
def wid (t : Int) : Nat := if t = 1 then 1 else if t = 2 then 2 else if t = 9 then 3 else if t = 3 then 4 else if t = 8 then 8 else 0
theorem wid_cases (t : Int) : (t = 1 ∧ wid t = 1) ∨ (t = 2 ∧ wid t = 2) ∨ (t = 9 ∧ wid t = 3) ∨ (t = 3 ∧ wid t = 4) ∨ (t = 8 ∧ wid t = 8) ∨ ((t ≠ 1 ∧ t ≠ 2 ∧ t ≠ 9 ∧ t ≠ 3 ∧ t ≠ 8) ∧ wid t = 0) := by
  unfold wid
  repeat' split
  all_goals omega

theorem width13 (t : Int) (w : World) : Calls Trym.prog 13 #[.int .u8 t] w fun e w' => e = .returned (.int .i64 (wid t)) ∧ w = w' := by
  rcases wid_cases t with ⟨rfl, h⟩ | ⟨rfl, h⟩ | ⟨rfl, h⟩ | ⟨rfl, h⟩ | ⟨rfl, h⟩ | ⟨⟨h1, h2, h3, h4, h5⟩, h⟩
  iterate 5
    · go_enter Trym.func13, Trym.ntmps13
      go_wp2
      go_ret
      exact ⟨rfl, rfl⟩
  · have H : Hid (wid t = 0) := h
    clear h
    have e1 : (t == 1) = false := by simpa using h1
    have e2 : (t == 2) = false := by simpa using h2
    have e3 : (t == 9) = false := by simpa using h3
    have e4 : (t == 3) = false := by simpa using h4
    have e5 : (t == 8) = false := by simpa using h5
    clear h1 h2 h3 h4 h5
    go_enter Trym.func13, Trym.ntmps13
    go_wp2
    go_ret
    exact ⟨ret_int (by rw [H.out]; rfl), rfl⟩

theorem width9 (t : Int) (w : World) : Calls Trym.prog 9 #[.int .u8 t] w fun e w' => e = .returned (.int .i64 (wid t)) ∧ w = w' := by
  rcases wid_cases t with ⟨rfl, h⟩ | ⟨rfl, h⟩ | ⟨rfl, h⟩ | ⟨rfl, h⟩ | ⟨rfl, h⟩ | ⟨⟨h1, h2, h3, h4, h5⟩, h⟩
  iterate 5
    · go_enter Trym.func9, Trym.ntmps9
      go_wp2
      go_ret
      exact ⟨rfl, rfl⟩
  · have H : Hid (wid t = 0) := h
    clear h
    have e1 : (t == 1) = false := by simpa using h1
    have e2 : (t == 2) = false := by simpa using h2
    have e3 : (t == 9) = false := by simpa using h3
    have e4 : (t == 3) = false := by simpa using h4
    have e5 : (t == 8) = false := by simpa using h5
    clear h1 h2 h3 h4 h5
    go_enter Trym.func9, Trym.ntmps9
    go_wp2
    go_ret
    exact ⟨ret_int (by rw [H.out]; rfl), rfl⟩

set_option maxHeartbeats 400000 in
/-- 'integer' at a cell that is no integer's. -/
theorem integer_no (ab nu : Bool) (a : Option Addr) (len cap : Nat) (t : Int) (w : World) (hlen : len ≤ 65536)
    (h : ab = true ∨ (ab = false ∧ nu = true) ∨ (ab = false ∧ nu = false ∧ wid t = 0) ∨ (ab = false ∧ nu = false ∧ ¬ wid t = 0 ∧ len ≠ wid t)) :
    Calls Trym.prog 12 #[.agg #[.bool ab, .bool nu, .slice a len cap, .int .u8 t]] w fun e w' => e = .returned (.tuple #[.int .u64 0, .int .i64 0]) ∧ Below w.heap.size w w' := by
  have hw13 := width13 t
  obtain ⟨n, hn⟩ : ∃ n, wid t = n := ⟨_, rfl⟩
  rw [hn] at h hw13
  have HW : Hid (∀ w, Calls Trym.prog 13 #[.int .u8 t] w fun e w' => e = .returned (.int .i64 n) ∧ w = w') := hw13
  clear hw13 hn
  rcases h with rfl | ⟨rfl, rfl⟩ | ⟨rfl, rfl, rfl⟩ | ⟨rfl, rfl, h1, h2⟩
  · go_enter Trym.func12, Trym.ntmps12
    go_wp2_with (go_at_call 13; refine (HW.out _).mono ?_; rintro e w' ⟨rfl, rfl⟩)
    go_ret2
    exact ⟨rfl, (Below.refl _ _).alloc (Nat.le_refl _) _⟩
  · go_enter Trym.func12, Trym.ntmps12
    go_wp2_with (go_at_call 13; refine (HW.out _).mono ?_; rintro e w' ⟨rfl, rfl⟩)
    go_ret2
    exact ⟨rfl, (Below.refl _ _).alloc (Nat.le_refl _) _⟩
  · go_enter Trym.func12, Trym.ntmps12
    go_wp2_with (go_at_call 13; refine (HW.out _).mono ?_; rintro e w' ⟨rfl, rfl⟩)
    go_ret2
    exact ⟨rfl, (Below.refl _ _).alloc (Nat.le_refl _) _⟩
  · have e1 : ((n : Int) == 0) = false := by rw [beq_eq_false_iff_ne]; omega
    have e2 : ((len : Int) != (n : Int)) = true := by rw [bne_iff_ne]; omega
    clear h1 h2
    go_enter Trym.func12, Trym.ntmps12
    go_wp2_with (go_at_call 13; refine (HW.out _).mono ?_; rintro e w' ⟨rfl, rfl⟩)
    go_ret2
    exact ⟨rfl, (Below.refl _ _).alloc (Nat.le_refl _) _⟩

set_option maxHeartbeats 400000 in
theorem integer_yes (b off len cap : Nat) (t : Int) (zs : List Int) (w : World) (h1 : 1 ≤ len) (h8 : len ≤ 8) (ht : wid t = len) (hzl : zs.length = len)
    (hc : ∀ j, j < len → w.cell? ⟨b, off + j, none⟩ = some (.int .u8 (zs.getD j 0))) (hbd : ∀ z ∈ zs, 0 ≤ z ∧ z ≤ 255) :
    Calls Trym.prog 12 #[.agg #[.bool false, .bool false, .slice (some ⟨b, off, none⟩) len cap, .int .u8 t]] w fun e w' => e = .returned (.tuple #[.int .u64 (le zs), .int .i64 len]) ∧ Below w.heap.size w w' := by
  have hw13 := width13 t
  rw [ht] at hw13
  have HW : Hid (∀ w, Calls Trym.prog 13 #[.int .u8 t] w fun e w' => e = .returned (.int .i64 len) ∧ w = w') := hw13
  clear hw13 ht
  have hb : b < w.heap.size := World.block_lt_of_cell? w _ (hc 0 (by omega))
  have e1 : ((len : Int) == 0) = false := by rw [beq_eq_false_iff_ne]; omega
  go_enter Trym.func12, Trym.ntmps12
  go_wp2_with (go_at_call 13; refine (HW.out _).mono ?_; rintro e w' ⟨rfl, rfl⟩)
  go_loop [5, 6] (fun v i => ∃ k : Nat, k ≤ len ∧ i = .int .i64 ((k : Int) - 1) ∧ v = .int .u64 (le (zs.drop k))) (fun _ i => (intOf i + 1).toNat)
  case atStart => exact ⟨len, Nat.le_refl _, rfl, by rw [List.drop_of_length_le (by omega)]; rfl⟩
  case round =>
    obtain ⟨k, hk, rfl, rfl⟩ := hrel
    by_cases hlt : 1 ≤ k
    · obtain ⟨q, rfl⟩ : ∃ q, k = q + 1 := ⟨k - 1, by omega⟩
      have hcq := hc q (by omega)
      have HS : Hid (bits .or .u64 (IntKind.u64.wrap (le (zs.drop (q + 1)) * 256)) (IntKind.u64.wrap (zs[q]?.getD 0)) = le (zs.drop q)) := by
        have h7 := le_bd7 (zs.drop (q + 1)) (fun z hz => hbd z (List.mem_of_mem_drop hz)) (by simp; omega)
        have hq : zs[q]?.getD 0 = zs.getD q 0 := by simp [List.getD]
        have hz : 0 ≤ zs.getD q 0 ∧ zs.getD q 0 ≤ 255 := by
          have : zs.getD q 0 = zs[q]'(by omega) := by simp [List.getD, show q < zs.length by omega]
          rw [this]; exact hbd _ (List.getElem_mem _)
        show _ = _
        rw [hq, or_step _ _ h7.1 h7.2 hz.1 hz.2, le_drop zs q (by omega)]
      go_wp2
      go_round
      case rel => exact ⟨q, by omega, rfl, by rw [HS.out]⟩
      case measure => simp [intOf]
    · have hk0 : k = 0 := by omega
      subst hk0
      go_wp2
      go_ret2
      exact ⟨by simp, (Below.refl _ _).alloc (Nat.le_refl _) _⟩

theorem ret_int2 {k : IntKind} {a b : Int} {v : Value} (h : a = b) : Ending.returned (.tuple #[.int k a, v]) = .returned (.tuple #[.int k b, v]) := by rw [h]
theorem int_no (ab nu : Bool) (a : Option Addr) (len cap : Nat) (t : Int) (w : World) (hlen : len ≤ 65536)
    (h : ab = true ∨ (ab = false ∧ nu = true) ∨ (ab = false ∧ nu = false ∧ wid t = 0) ∨ (ab = false ∧ nu = false ∧ ¬ wid t = 0 ∧ len ≠ wid t)) :
    Calls Trym.prog 7 #[.agg #[.bool ab, .bool nu, .slice a len cap, .int .u8 t]] w fun e w' => e = .returned (.tuple #[.int .i64 0, .bool false]) ∧ Below w.heap.size w w' := by
  have HW : Hid (∀ w, Calls Trym.prog 12 #[.agg #[.bool ab, .bool nu, .slice a len cap, .int .u8 t]] w fun e w' => e = .returned (.tuple #[.int .u64 0, .int .i64 0]) ∧ Below w.heap.size w w') := fun w => integer_no ab nu a len cap t w hlen h
  clear h
  go_enter Trym.func7, Trym.ntmps7
  go_wp2_with (go_at_call 12; refine (HW.out _).mono ?_; rintro e w' ⟨rfl, hb⟩)
  go_ret2
  exact ⟨rfl, ((Below.refl _ _).alloc (Nat.le_refl _) _).trans (hb.mono (by simp))⟩

theorem int_yes (b off len cap : Nat) (t : Int) (zs : List Int) (w : World) (ht : wid t = len) (hl : len = 1 ∨ len = 2 ∨ len = 3 ∨ len = 4 ∨ len = 8) (hzl : zs.length = len)
    (hc : ∀ j, j < len → w.cell? ⟨b, off + j, none⟩ = some (.int .u8 (zs.getD j 0))) (hbd : ∀ z ∈ zs, 0 ≤ z ∧ z ≤ 255) :
    Calls Trym.prog 7 #[.agg #[.bool false, .bool false, .slice (some ⟨b, off, none⟩) len cap, .int .u8 t]] w fun e w' => e = .returned (.tuple #[.int .i64 (sgn len (le zs)), .bool true]) ∧ Below w.heap.size w w' := by
  have hb : b < w.heap.size := World.block_lt_of_cell? w _ (hc 0 (by omega))
  have HW : Hid (∀ o, Calls Trym.prog 12 #[.agg #[.bool false, .bool false, .slice (some ⟨b, off, none⟩) len cap, .int .u8 t]] (w.alloc o) fun e w' => e = .returned (.tuple #[.int .u64 (le zs), .int .i64 len]) ∧ Below (w.alloc o).heap.size (w.alloc o) w') :=
    fun o => integer_yes b off len cap t zs (w.alloc o) (by omega) (by omega) ht hzl (fun j hj => by rw [World.cell?_alloc_lt _ _ _ (by exact hb)]; exact hc j hj) hbd
  have hbd2 := le_bd zs hbd
  rw [hzl] at hbd2
  clear hc hzl ht
  obtain ⟨u, hu⟩ : ∃ u, u = le zs := ⟨_, rfl⟩
  rw [← hu] at HW hbd2 ⊢
  clear hu
  obtain ⟨g1, g2⟩ := hbd2
  rcases hl with rfl | rfl | rfl | rfl | rfl
  · have g3 : u ≤ 255 := by
      have : (256 : Nat) ^ 1 = 256 := rfl
      omega
    clear g2
    have HE := shift1 u g1 g3
    have H : Hid (wrap64 (u * 72057594037927936) / 72057594037927936 = sgn 1 u) := HE
    clear HE
    go_enter Trym.func7, Trym.ntmps7
    go_wp2_with (go_at_call 12; refine (HW.out _).mono ?_; rintro e w' ⟨rfl, hb⟩)
    go_ret2
    exact ⟨ret_int2 H.out, ((Below.refl _ _).alloc (Nat.le_refl _) _).trans (hb.mono (by simp))⟩
  · have g3 : u ≤ 65535 := by
      have : (256 : Nat) ^ 2 = 65536 := rfl
      omega
    clear g2
    have HE := shift2 u g1 g3
    have H : Hid (wrap64 (u * 281474976710656) / 281474976710656 = sgn 2 u) := HE
    clear HE
    go_enter Trym.func7, Trym.ntmps7
    go_wp2_with (go_at_call 12; refine (HW.out _).mono ?_; rintro e w' ⟨rfl, hb⟩)
    go_ret2
    exact ⟨ret_int2 H.out, ((Below.refl _ _).alloc (Nat.le_refl _) _).trans (hb.mono (by simp))⟩
  · have g3 : u ≤ 16777215 := by
      have : (256 : Nat) ^ 3 = 16777216 := rfl
      omega
    clear g2
    have HE := shift3 u g1 g3
    have H : Hid (wrap64 (u * 1099511627776) / 1099511627776 = sgn 3 u) := HE
    clear HE
    go_enter Trym.func7, Trym.ntmps7
    go_wp2_with (go_at_call 12; refine (HW.out _).mono ?_; rintro e w' ⟨rfl, hb⟩)
    go_ret2
    exact ⟨ret_int2 H.out, ((Below.refl _ _).alloc (Nat.le_refl _) _).trans (hb.mono (by simp))⟩
  · have g3 : u ≤ 4294967295 := by
      have : (256 : Nat) ^ 4 = 4294967296 := rfl
      omega
    clear g2
    have HE := shift4 u g1 g3
    have H : Hid (wrap64 (u * 4294967296) / 4294967296 = sgn 4 u) := HE
    clear HE
    go_enter Trym.func7, Trym.ntmps7
    go_wp2_with (go_at_call 12; refine (HW.out _).mono ?_; rintro e w' ⟨rfl, hb⟩)
    go_ret2
    exact ⟨ret_int2 H.out, ((Below.refl _ _).alloc (Nat.le_refl _) _).trans (hb.mono (by simp))⟩
  · have g3 : u ≤ 18446744073709551615 := by
      have : (256 : Nat) ^ 8 = 18446744073709551616 := rfl
      omega
    clear g2
    have HE := shift8 u g1 g3
    have H : Hid (wrap64 u = sgn 8 u) := HE
    clear HE
    go_enter Trym.func7, Trym.ntmps7
    go_wp2_with (go_at_call 12; refine (HW.out _).mono ?_; rintro e w' ⟨rfl, hb⟩)
    go_ret2
    exact ⟨ret_int2 H.out, ((Below.refl _ _).alloc (Nat.le_refl _) _).trans (hb.mono (by simp))⟩

theorem zinteger_no (ab nu : Bool) (a : Option Addr) (len cap : Nat) (t : Int) (w : World) (hlen : len ≤ 65536)
    (h : ab = true ∨ (ab = false ∧ nu = true) ∨ (ab = false ∧ nu = false ∧ wid t = 0) ∨ (ab = false ∧ nu = false ∧ ¬ wid t = 0 ∧ len ≠ wid t)) :
    Calls Trym.prog 8 #[.agg #[.bool ab, .bool nu, .slice a len cap, .int .u8 t]] w fun e w' => e = .returned (.tuple #[.int .u64 0, .int .i64 0]) ∧ Below w.heap.size w w' := by
  have HW : Hid (∀ w, Calls Trym.prog 12 #[.agg #[.bool ab, .bool nu, .slice a len cap, .int .u8 t]] w fun e w' => e = .returned (.tuple #[.int .u64 0, .int .i64 0]) ∧ Below w.heap.size w w') := fun w => integer_no ab nu a len cap t w hlen h
  clear h
  go_enter Trym.func8, Trym.ntmps8
  go_wp2_with (go_at_call 12; refine (HW.out _).mono ?_; rintro e w' ⟨rfl, hb⟩)
  go_ret2
  exact ⟨rfl, ((Below.refl _ _).alloc (Nat.le_refl _) _).trans (hb.mono (by simp))⟩

theorem zinteger_yes (b off len cap : Nat) (t : Int) (zs : List Int) (w : World) (h1 : 1 ≤ len) (h8 : len ≤ 8) (ht : wid t = len) (hzl : zs.length = len)
    (hc : ∀ j, j < len → w.cell? ⟨b, off + j, none⟩ = some (.int .u8 (zs.getD j 0))) (hbd : ∀ z ∈ zs, 0 ≤ z ∧ z ≤ 255) :
    Calls Trym.prog 8 #[.agg #[.bool false, .bool false, .slice (some ⟨b, off, none⟩) len cap, .int .u8 t]] w fun e w' => e = .returned (.tuple #[.int .u64 (le zs), .int .i64 len]) ∧ Below w.heap.size w w' := by
  have hb : b < w.heap.size := World.block_lt_of_cell? w _ (hc 0 (by omega))
  have HW : Hid (∀ o, Calls Trym.prog 12 #[.agg #[.bool false, .bool false, .slice (some ⟨b, off, none⟩) len cap, .int .u8 t]] (w.alloc o) fun e w' => e = .returned (.tuple #[.int .u64 (le zs), .int .i64 len]) ∧ Below (w.alloc o).heap.size (w.alloc o) w') :=
    fun o => integer_yes b off len cap t zs (w.alloc o) (by omega) (by omega) ht hzl (fun j hj => by rw [World.cell?_alloc_lt _ _ _ (by exact hb)]; exact hc j hj) hbd
  clear hc hzl ht
  go_enter Trym.func8, Trym.ntmps8
  go_wp2_with (go_at_call 12; refine (HW.out _).mono ?_; rintro e w' ⟨rfl, hb⟩)
  go_ret2
  exact ⟨rfl, ((Below.refl _ _).alloc (Nat.le_refl _) _).trans (hb.mono (by simp))⟩

/-- 'ZZMakeCell'. -/
theorem make_cell (ab nu : Bool) (a : Option Addr) (len cap : Nat) (t : Int) (w : World) :
    Calls Trym.prog 6 #[.bool ab, .bool nu, .slice a len cap, .int .u8 t] w fun e w' => e = .returned (.agg #[.bool ab, .bool nu, .slice a len cap, .int .u8 t]) ∧ Below w.heap.size w w' := by
  go_enter Trym.func6, Trym.ntmps6
  go_wp2
  exact bodyPost_ret (v := .agg #[.bool ab, .bool nu, .slice a len cap, .int .u8 t]) (by simp [results, Trym.results6, go_sem]) rfl ⟨rfl, (Below.refl _ _).alloc (Nat.le_refl _) _⟩

theorem bytes5 (a : Option Addr) (len cap : Nat) (ab nu : Bool) (t : Int) (w : World) (h : len ≤ 1048576) :
    Calls Trym.prog 5 #[.bool ab, .bool nu, .slice a len cap, .int .u8 t] w fun e w' => e = .returned (.bool true) ∧ w = w' := by
  have h1 : ¬ (1048576 : Int) < (len : Int) := by omega
  go_enter Trym.func5, Trym.ntmps5
  go_wp2
  go_ret
  exact ⟨rfl, rfl⟩
theorem bytes5_no (a : Option Addr) (len cap : Nat) (ab nu : Bool) (t : Int) (w : World) (h : 1048576 < len) :
    Calls Trym.prog 5 #[.bool ab, .bool nu, .slice a len cap, .int .u8 t] w fun e w' => e = .returned (.bool false) ∧ w = w' := by
  have h1 : (1048576 : Int) < (len : Int) := by omega
  go_enter Trym.func5, Trym.ntmps5
  go_wp2
  go_ret
  exact ⟨rfl, rfl⟩
theorem bytes11 (a : Option Addr) (len cap : Nat) (ab nu : Bool) (t : Int) (w : World) (h : len ≤ 1048576) :
    Calls Trym.prog 11 #[.bool ab, .bool nu, .slice a len cap, .int .u8 t] w fun e w' => e = .returned (.bool true) ∧ w = w' := by
  have h1 : ¬ (1048576 : Int) < (len : Int) := by omega
  go_enter Trym.func11, Trym.ntmps11
  go_wp2
  go_ret
  exact ⟨rfl, rfl⟩
theorem bytes11_no (a : Option Addr) (len cap : Nat) (ab nu : Bool) (t : Int) (w : World) (h : 1048576 < len) :
    Calls Trym.prog 11 #[.bool ab, .bool nu, .slice a len cap, .int .u8 t] w fun e w' => e = .returned (.bool false) ∧ w = w' := by
  have h1 : (1048576 : Int) < (len : Int) := by omega
  go_enter Trym.func11, Trym.ntmps11
  go_wp2
  go_ret
  exact ⟨rfl, rfl⟩
end Go.Proofs.Qxb6617080aMods
