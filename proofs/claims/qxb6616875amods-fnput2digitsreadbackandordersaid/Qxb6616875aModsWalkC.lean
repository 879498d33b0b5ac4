/- 'FnPut2DigitsReadBackAndOrder': the walk. -/
import Derived.Test.Qxb6616875aModsWalkA
namespace Go.Proofs.Qxb6616875aMods
open Go.RowKit Go.Deep
set_option linter.unusedVariables false

/-- The two-digit texts compare as the numbers do. -/
theorem cmp2_lt {v u : Int} (h0 : 0 ≤ v) (h2 : u ≤ 99) (h : v < u) : cmp2 (48 + v / 10) (48 + v % 10) (48 + u / 10) (48 + u % 10) = -1 := by
  unfold cmp2 cmpZ
  by_cases e : 48 + v / 10 = 48 + u / 10
  · rw [if_pos e, if_pos (by omega)]
  · rw [if_neg e, if_pos (by omega)]
theorem cmp2_gt {v u : Int} (h0 : 0 ≤ u) (h2 : v ≤ 99) (h : u < v) : cmp2 (48 + v / 10) (48 + v % 10) (48 + u / 10) (48 + u % 10) = 1 := by
  unfold cmp2 cmpZ
  by_cases e : 48 + v / 10 = 48 + u / 10
  · rw [if_pos e, if_neg (by omega), if_pos (by omega)]
  · rw [if_neg e, if_neg (by omega), if_pos (by omega)]
theorem cmp2_same (v : Int) : cmp2 (48 + v / 10) (48 + v % 10) (48 + v / 10) (48 + v % 10) = 0 := by
  unfold cmp2 cmpZ
  rw [if_pos rfl, if_neg (by omega), if_neg (by omega)]

set_option maxHeartbeats 2000000 in
theorem order_in (b off len cap : Nat) (zs : List Int) (v u : Int) (w : World) (hc : ∀ j, j < len → w.cell? ⟨b, off + j, none⟩ = some (.int .u8 (zs.getD j 0)))
    (h4 : 2 ≤ len) (h5 : len ≤ 65536) (hv0 : 0 ≤ v) (hv1 : v ≤ 99) (hu0 : 0 ≤ u) (hu1 : u ≤ 99) :
    Calls Trym.prog 3 #[.slice (some ⟨b, off, none⟩) len cap, .int .i64 v, .int .i64 u] w fun e w' => e = .returned (.bool true) ∧ Below w.heap.size w w' := by
  have hb : b < w.heap.size := World.block_lt_of_cell? w _ (hc 0 (by omega))
  go_enter Trym.func3, Trym.ntmps3
  go_wp2_with (first
    | (go_at_call 6; refine (bytes6 _ _ _ _ _ _ (by omega)).mono ?_; rintro e w' ⟨rfl, rfl⟩)
    | fail)
  refine (clone_any b off len cap zs _ (by omega) h5 hb hc).mono ?_
  rintro e w1 ⟨rfl, hrow, hbel⟩
  have hc1 : ∀ j, j < len → w1.cell? ⟨b, off + j, none⟩ = some (.int .u8 (zs.getD j 0)) := fun j hj => (hbel.cell (by exact hb)).trans (hc j hj)
  have hz1 : w.heap.size < w1.heap.size := hrow.lt
  have hrowH : Hid (w1.rowIs w.heap.size 5 len (fun j => .int .u8 (zs.getD j 0))) := hrow
  have hbelH : Hid (Below w.heap.size w w1) := hbel
  clear hrow hbel
  go_wp2_with fail
  refine (clone_any b off len cap zs w1 (by omega) h5 (by omega) hc1).mono ?_
  rintro e w2 ⟨rfl, hrowy, hbel2⟩
  have hrowx : w2.rowIs w.heap.size 5 len (fun j => .int .u8 (zs.getD j 0)) := hrowH.out.of_block (hbel2.block _ hz1)
  have hB : Below w.heap.size w w2 := hbelH.out.trans (hbel2.mono (by omega))
  clear hrowH hbelH hbel2 hc1
  have hne : w.heap.size ≠ w1.heap.size := by omega
  have k0 := hrowx.cell (i := 0) (by omega)
  have k1 := hrowx.cell (i := 1) (by omega)
  have f0 := hrowx.frozen 0
  have f1 := hrowx.frozen 1
  go_wp2_with fail
  refine (put2_any w.heap.size 0 len len v w2 hv0 hv1 h4 _ _ k0 k1 f0 f1).mono ?_
  rintro e w3 ⟨rfl, hw3⟩
  have rx3 := (hrowx.set 0 (.int .u8 (48 + v / 10))).set 1 (.int .u8 (48 + v % 10))
  have ry3 := (hrowy.setOther (a := ⟨w.heap.size, 0, none⟩) (by exact hne.symm) (.int .u8 (48 + v / 10))).setOther (a := ⟨w.heap.size, 1, none⟩) (by exact hne.symm) (.int .u8 (48 + v % 10))
  have hB3 := (hB.setCell (p := ⟨w.heap.size, 0, none⟩) (Nat.le_refl _) (.int .u8 (48 + v / 10))).setCell (p := ⟨w.heap.size, 1, none⟩) (Nat.le_refl _) (.int .u8 (48 + v % 10))
  simp only [Nat.zero_add] at hw3
  rw [← hw3] at rx3 ry3 hB3
  clear hw3 hrowx hrowy hB k0 k1 f0 f1
  have k0 := ry3.cell (i := 0) (by omega)
  have k1 := ry3.cell (i := 1) (by omega)
  have f0 := ry3.frozen 0
  have f1 := ry3.frozen 1
  go_wp2_with fail
  refine (put2_any w1.heap.size 0 len len u w3 hu0 hu1 h4 _ _ k0 k1 f0 f1).mono ?_
  rintro e w4 ⟨rfl, hw4⟩
  have ry4 := (ry3.set 0 (.int .u8 (48 + u / 10))).set 1 (.int .u8 (48 + u % 10))
  have rx4 := (rx3.setOther (a := ⟨w1.heap.size, 0, none⟩) (by exact hne) (.int .u8 (48 + u / 10))).setOther (a := ⟨w1.heap.size, 1, none⟩) (by exact hne) (.int .u8 (48 + u % 10))
  have hB4 := (hB3.setCell (p := ⟨w1.heap.size, 0, none⟩) (Nat.le_of_lt hz1) (.int .u8 (48 + u / 10))).setCell (p := ⟨w1.heap.size, 1, none⟩) (Nat.le_of_lt hz1) (.int .u8 (48 + u % 10))
  simp only [Nat.zero_add] at hw4
  rw [← hw4] at rx4 ry4 hB4
  clear hw4 rx3 ry3 hB3 k0 k1 f0 f1
  have x0 : w4.cell? ⟨w.heap.size, 0, none⟩ = some (.int .u8 (48 + v / 10)) := by simpa using rx4.cell (i := 0) (by omega)
  have x1 : w4.cell? ⟨w.heap.size, 0 + 1, none⟩ = some (.int .u8 (48 + v % 10)) := by simpa using rx4.cell (i := 1) (by omega)
  have y0 : w4.cell? ⟨w1.heap.size, 0, none⟩ = some (.int .u8 (48 + u / 10)) := by simpa using ry4.cell (i := 0) (by omega)
  have y1 : w4.cell? ⟨w1.heap.size, 0 + 1, none⟩ = some (.int .u8 (48 + u % 10)) := by simpa using ry4.cell (i := 1) (by omega)
  have HX : Hid (∀ j, 2 ≤ j → j < len → w4.cell? ⟨w.heap.size, 0 + j, none⟩ = some (.int .u8 (zs.getD j 0))) := by
    intro j hj hj2
    rw [Nat.zero_add, rx4.cell hj2, if_neg (by omega), if_neg (by omega)]
  have HY : Hid (∀ j, 2 ≤ j → j < len → w4.cell? ⟨w1.heap.size, 0 + j, none⟩ = some (.int .u8 (zs.getD j 0))) := by
    intro j hj hj2
    rw [Nat.zero_add, ry4.cell hj2, if_neg (by omega), if_neg (by omega)]
  have HZ : Hid (∀ j, 2 ≤ j → j < len → w4.cell? ⟨b, off + j, none⟩ = some (.int .u8 (zs.getD j 0))) := fun j _ hj2 => (hB4.cell (by exact hb)).trans (hc j hj2)
  have HB : Hid (Below w.heap.size w w4) := hB4
  have X0 : Hid (w4.cell? ⟨w.heap.size, 0, none⟩ = some (.int .u8 (48 + v / 10))) := x0
  have X1 : Hid (w4.cell? ⟨w.heap.size, 0 + 1, none⟩ = some (.int .u8 (48 + v % 10))) := x1
  have Y0 : Hid (w4.cell? ⟨w1.heap.size, 0, none⟩ = some (.int .u8 (48 + u / 10))) := y0
  have Y1 : Hid (w4.cell? ⟨w1.heap.size, 0 + 1, none⟩ = some (.int .u8 (48 + u % 10))) := y1
  clear rx4 ry4 hB4 hc x0 x1 y0 y1
  go_wp2_with fail
  refine (digits_any w.heap.size 0 len len v w4 h4 hv0 hv1 X0.out X1.out).mono ?_
  rintro e w5 ⟨rfl, m, hw5⟩
  subst hw5
  go_wp2_with fail
  refine (rest_any w.heap.size 0 b off len len cap 2 (fun j => zs.getD j 0) _ h5 h4 (by exact HX.out) (by exact HZ.out)).mono ?_
  rintro e w5 ⟨rfl, m2, hw5⟩
  subst hw5
  go_wp2_with fail
  refine (digits_any w1.heap.size 0 len len u _ h4 hu0 hu1 (by exact Y0.out) (by exact Y1.out)).mono ?_
  rintro e w5 ⟨rfl, m3, hw5⟩
  subst hw5
  go_wp2_with fail
  refine (rest_any w1.heap.size 0 b off len len cap 2 (fun j => zs.getD j 0) _ h5 h4 (by exact HY.out) (by exact HZ.out)).mono ?_
  rintro e w5 ⟨rfl, m4, hw5⟩
  subst hw5
  go_wp2_with fail
  refine (cmp_any w.heap.size 0 len len w1.heap.size 0 len len (48 + v / 10) (48 + v % 10) (48 + u / 10) (48 + u % 10) _ h4 h4 (by exact X0.out) (by exact X1.out) (by exact Y0.out) (by exact Y1.out)).mono ?_
  rintro e w5 ⟨rfl, m5, hw5⟩
  have HB5 : Hid (Below w.heap.size w w5) := by
    subst hw5
    exact below_drewN (below_drewN HB.out _) _
  clear hw5 X0 X1 Y0 Y1 HX HY HZ HB
  rcases (show v < u ∨ (¬ v < u ∧ u < v) ∨ v = u from by omega) with h | ⟨h', h⟩ | h
  · have e := cmp2_lt hv0 hu1 h
    rw [e]
    go_wp2
    go_ret
    exact ⟨rfl, HB5.out⟩
  · have e := cmp2_gt hu0 hv1 h
    rw [e]
    go_wp2
    go_ret
    exact ⟨rfl, HB5.out⟩
  · subst h
    have e := cmp2_same v
    rw [e]
    go_wp2
    go_ret
    exact ⟨rfl, HB5.out⟩

theorem order_long (a : Option Addr) (len cap : Nat) (v u : Int) (w : World) (h : 65536 < len) (hm : len ≤ maxLen) :
    Calls Trym.prog 3 #[.slice a len cap, .int .i64 v, .int .i64 u] w fun e w' => e = .returned (.bool true) ∧ Below w.heap.size w w' := by
  unfold maxLen at hm
  by_cases h1 : len ≤ 1048576
  · go_enter Trym.func3, Trym.ntmps3
    go_wp2_with (go_at_call 6; refine (bytes6 _ _ _ _ _ _ (by omega)).mono ?_; rintro e w' ⟨rfl, rfl⟩)
    go_ret
    exact ⟨rfl, Below.refl _ _⟩
  · go_enter Trym.func3, Trym.ntmps3
    go_wp2_with (go_at_call 6; refine (bytes6_no _ _ _ _ _ _ (by omega)).mono ?_; rintro e w' ⟨rfl, rfl⟩)
    go_ret
    exact ⟨rfl, Below.refl _ _⟩

theorem order_short (a : Option Addr) (len cap : Nat) (v u : Int) (w : World) (h : len < 2) :
    Calls Trym.prog 3 #[.slice a len cap, .int .i64 v, .int .i64 u] w fun e w' => e = .returned (.bool true) ∧ Below w.heap.size w w' := by
  go_enter Trym.func3, Trym.ntmps3
  go_wp2_with (go_at_call 6; refine (bytes6 _ _ _ _ _ _ (by omega)).mono ?_; rintro e w' ⟨rfl, rfl⟩)
  go_ret
  exact ⟨rfl, Below.refl _ _⟩

theorem order_out (a : Option Addr) (len cap : Nat) (v u : Int) (w : World) (h : 2 ≤ len) (h2 : len ≤ 65536) (hn : v < 0 ∨ (¬ v < 0 ∧ 99 < v) ∨ ((¬ v < 0 ∧ ¬ 99 < v) ∧ u < 0) ∨ ((¬ v < 0 ∧ ¬ 99 < v) ∧ ¬ u < 0 ∧ 99 < u)) :
    Calls Trym.prog 3 #[.slice a len cap, .int .i64 v, .int .i64 u] w fun e w' => e = .returned (.bool true) ∧ Below w.heap.size w w' := by
  rcases hn with hn | ⟨h1, hn⟩ | ⟨⟨h1, h3⟩, hn⟩ | ⟨⟨h1, h3⟩, h4, hn⟩
  all_goals
    go_enter Trym.func3, Trym.ntmps3
    go_wp2_with (go_at_call 6; refine (bytes6 _ _ _ _ _ _ (by omega)).mono ?_; rintro e w' ⟨rfl, rfl⟩)
    go_ret
    exact ⟨rfl, Below.refl _ _⟩
end Go.Proofs.Qxb6616875aMods
