/- 'FnPut2PairSpellsFourDigits': the walk. -/
import Derived.Test.Qxb6616875aModsWalkA
namespace Go.Proofs.Qxb6616875aMods
open Go.RowKit Go.Deep

set_option maxHeartbeats 1000000 in
theorem pair_in (b off len cap : Nat) (zs : List Int) (n : Int) (w : World) (hc : ∀ j, j < len → w.cell? ⟨b, off + j, none⟩ = some (.int .u8 (zs.getD j 0)))
    (h4 : 4 ≤ len) (h5 : len ≤ 65536) (hn0 : 0 ≤ n) (hn1 : n ≤ 9999) :
    Calls Trym.prog 4 #[.slice (some ⟨b, off, none⟩) len cap, .int .i64 n] w fun e w' => e = .returned (.bool true) ∧ Below w.heap.size w w' := by
  have hb : b < w.heap.size := World.block_lt_of_cell? w _ (hc 0 (by omega))
  have hg2 : ¬ len = 2 := by omega
  go_enter Trym.func4, Trym.ntmps4
  go_wp2_with (first
    | (go_at_call 12; refine (bytes12 _ _ _ _ _ (by omega)).mono ?_; rintro e w' ⟨rfl, rfl⟩)
    | fail)
  refine (clone_any b off len cap zs _ (by omega) h5 hb hc).mono ?_
  rintro e w1 ⟨rfl, hrow, hbel⟩
  have k0 := hrow.cell (i := 0) (by omega)
  have k1 := hrow.cell (i := 1) (by omega)
  have f0 := hrow.frozen 0
  have f1 := hrow.frozen 1
  go_wp2_with fail
  refine (put2_any _ 0 len len (n / 100) w1 (by omega) (by omega) (by omega) _ _ k0 k1 f0 f1).mono ?_
  rintro e w2 ⟨rfl, hw2⟩
  have hrow2 := (hrow.set 0 (.int .u8 (48 + n / 100 / 10))).set 1 (.int .u8 (48 + n / 100 % 10))
  have hbel2 := (hbel.setCell (p := ⟨w.heap.size, 0, none⟩) (Nat.le_refl _) (.int .u8 (48 + n / 100 / 10))).setCell (p := ⟨w.heap.size, 1, none⟩) (Nat.le_refl _) (.int .u8 (48 + n / 100 % 10))
  simp only [Nat.zero_add] at hw2
  rw [← hw2] at hrow2 hbel2
  clear hw2 k0 k1 f0 f1
  have k2 := hrow2.cell (i := 2) (by omega)
  have k3 := hrow2.cell (i := 3) (by omega)
  have f2 := hrow2.frozen 2
  have f3 := hrow2.frozen 3
  go_wp2_with fail
  refine (put2_any _ 2 (len - 2) (len - 2) (n % 100) w2 (by omega) (by omega) (by omega) _ _ k2 k3 f2 f3).mono ?_
  rintro e w3 ⟨rfl, hw3⟩
  have hrow3 := (hrow2.set 2 (.int .u8 (48 + n % 100 / 10))).set 3 (.int .u8 (48 + n % 100 % 10))
  have hbel3 := (hbel2.setCell (p := ⟨w.heap.size, 2, none⟩) (Nat.le_refl _) (.int .u8 (48 + n % 100 / 10))).setCell (p := ⟨w.heap.size, 3, none⟩) (Nat.le_refl _) (.int .u8 (48 + n % 100 % 10))
  rw [← hw3] at hrow3 hbel3
  clear hw3 k2 k3 f2 f3 hrow2 hbel2 hrow hbel
  have k0 : w3.cell? ⟨w.heap.size, 0, none⟩ = some (.int .u8 (48 + n / 100 / 10)) := by simpa using hrow3.cell (i := 0) (by omega)
  have k1 : w3.cell? ⟨w.heap.size, 1, none⟩ = some (.int .u8 (48 + n / 100 % 10)) := by simpa using hrow3.cell (i := 1) (by omega)
  have k2 : w3.cell? ⟨w.heap.size, 2, none⟩ = some (.int .u8 (48 + n % 100 / 10)) := by simpa using hrow3.cell (i := 2) (by omega)
  have k3 : w3.cell? ⟨w.heap.size, 3, none⟩ = some (.int .u8 (48 + n % 100 % 10)) := by simpa using hrow3.cell (i := 3) (by omega)
  have hx : ∀ j, 4 ≤ j → j < len → w3.cell? ⟨w.heap.size, 0 + j, none⟩ = some (.int .u8 (zs.getD j 0)) := by
    intro j hj hj2
    rw [Nat.zero_add, hrow3.cell hj2, if_neg (by omega), if_neg (by omega), if_neg (by omega), if_neg (by omega)]
  have hy : ∀ j, 4 ≤ j → j < len → w3.cell? ⟨b, off + j, none⟩ = some (.int .u8 (zs.getD j 0)) := fun j _ hj2 => (hbel3.cell (by exact hb)).trans (hc j hj2)
  have HX : Hid (∀ j, 4 ≤ j → j < len → w3.cell? ⟨w.heap.size, 0 + j, none⟩ = some (.int .u8 (zs.getD j 0))) := hx
  have HY : Hid (∀ j, 4 ≤ j → j < len → w3.cell? ⟨b, off + j, none⟩ = some (.int .u8 (zs.getD j 0))) := hy
  have HB : Hid (Below w.heap.size w w3) := hbel3
  clear hx hy hrow3 hbel3 hc
  have hl0 : (0 : Int) < (len : Int) := by omega
  have hl1 : (1 : Int) < (len : Int) := by omega
  have hl2 : (2 : Int) < (len : Int) := by omega
  have hl3 : (3 : Int) < (len : Int) := by omega
  go_wp2_with fail
  refine wp_loop_rounds 5 ?_
  rw [rounds_succ]
  go_wp2_with fail
  rw [rounds_succ]
  go_wp2_with fail
  rw [rounds_succ]
  go_wp2_with fail
  rw [rounds_succ]
  go_wp2_with fail
  rw [rounds_succ]
  go_wp2_with fail
  refine (rest_any w.heap.size 0 b off len len cap 4 (fun j => zs.getD j 0) w3 h5 h4 HX.out HY.out).mono ?_
  rintro e w4 ⟨rfl, m, hw4⟩
  have HB4 : Hid (Below w.heap.size w w4) := by subst hw4; exact below_drewN HB.out m
  clear hw4
  go_wp2
  go_ret
  exact ⟨rfl, HB4.out⟩

theorem pair_long (a : Option Addr) (len cap : Nat) (n : Int) (w : World) (h : 65536 < len) (hm : len ≤ maxLen) :
    Calls Trym.prog 4 #[.slice a len cap, .int .i64 n] w fun e w' => e = .returned (.bool true) ∧ Below w.heap.size w w' := by
  unfold maxLen at hm
  by_cases h1 : len ≤ 1048576
  · go_enter Trym.func4, Trym.ntmps4
    go_wp2_with (go_at_call 12; refine (bytes12 _ _ _ _ _ (by omega)).mono ?_; rintro e w' ⟨rfl, rfl⟩)
    go_ret
    exact ⟨rfl, Below.refl _ _⟩
  · go_enter Trym.func4, Trym.ntmps4
    go_wp2_with (go_at_call 12; refine (bytes12_no _ _ _ _ _ (by omega)).mono ?_; rintro e w' ⟨rfl, rfl⟩)
    go_ret
    exact ⟨rfl, Below.refl _ _⟩

theorem pair_short (a : Option Addr) (len cap : Nat) (n : Int) (w : World) (h : len < 4) :
    Calls Trym.prog 4 #[.slice a len cap, .int .i64 n] w fun e w' => e = .returned (.bool true) ∧ Below w.heap.size w w' := by
  go_enter Trym.func4, Trym.ntmps4
  go_wp2_with (go_at_call 12; refine (bytes12 _ _ _ _ _ (by omega)).mono ?_; rintro e w' ⟨rfl, rfl⟩)
  go_ret
  exact ⟨rfl, Below.refl _ _⟩

theorem pair_out (a : Option Addr) (len cap : Nat) (n : Int) (w : World) (h : 4 ≤ len) (h2 : len ≤ 65536) (hn : n < 0 ∨ 9999 < n) :
    Calls Trym.prog 4 #[.slice a len cap, .int .i64 n] w fun e w' => e = .returned (.bool true) ∧ Below w.heap.size w w' := by
  rcases hn with hn | hn
  · go_enter Trym.func4, Trym.ntmps4
    go_wp2_with (go_at_call 12; refine (bytes12 _ _ _ _ _ (by omega)).mono ?_; rintro e w' ⟨rfl, rfl⟩)
    go_ret
    exact ⟨rfl, Below.refl _ _⟩
  · have hn' : ¬ n < 0 := by omega
    go_enter Trym.func4, Trym.ntmps4
    go_wp2_with (go_at_call 12; refine (bytes12 _ _ _ _ _ (by omega)).mono ?_; rintro e w' ⟨rfl, rfl⟩)
    go_ret
    exact ⟨rfl, Below.refl _ _⟩
end Go.Proofs.Qxb6616875aMods
