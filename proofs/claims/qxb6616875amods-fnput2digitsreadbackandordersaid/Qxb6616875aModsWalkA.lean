/- The walks of seat b6616875aM: the callees, each by a contract. -/
import Derived.Test.Qxb6616875aModsRows
import Derived.WalkKit
import Derived.WalkSpells
import Derived.WalkLawsBesides
import Derived.Deep.OwnRows
import Derived.Deep.QuietTactic
import Derived.BigQuiet
namespace Go.Proofs.Qxb6616875aMods
open Go.RowKit Go.Deep

theorem Trym.info5 : (Trym.prog.info? 5).map (fun i => (i.zero, i.size, i.bytes)) = some (some (.int .u8 0), 1, 1) := by kernel_rfl

/-- The world behind some draws. -/
theorem drawn_refl (w : World) : ∃ m, w = w.drewN m := ⟨0, rfl⟩
theorem drawn_more {w w1 : World} (n : Nat) (h : ∃ m, w1 = w.drewN m) : ∃ m, w1.drewN n = w.drewN m := by
  obtain ⟨m, rfl⟩ := h
  exact ⟨m + n, World.drewN_drewN _ _ _⟩

theorem bytes12 (a : Option Addr) (len cap : Nat) (n : Int) (w : World) (h : len ≤ 1048576) :
    Calls Trym.prog 12 #[.slice a len cap, .int .i64 n] w fun e w' => e = .returned (.bool true) ∧ w = w' := by
  have h1 : ¬ (1048576 : Int) < (len : Int) := by omega
  go_enter Trym.func12, Trym.ntmps12
  go_wp2
  go_ret
  exact ⟨rfl, rfl⟩

set_option maxHeartbeats 400000 in
theorem clone_any (b off len cap : Nat) (zs : List Int) (w : World) (h1 : 1 ≤ len) (h2 : len ≤ 65536) (hb : b < w.heap.size)
    (hc : ∀ j, j < len → w.cell? ⟨b, off + j, none⟩ = some (.int .u8 (zs.getD j 0))) :
    Calls Trym.prog 7 #[.slice (some ⟨b, off, none⟩) len cap] w fun e w' => e = .returned (.slice (some ⟨w.heap.size, 0, none⟩) len len) ∧
      w'.rowIs w.heap.size 5 len (fun j => .int .u8 (zs.getD j 0)) ∧ Below w.heap.size w w' := by
  have hmk := run_make_row' (P := Trym.prog) 22 5 (.int .u8 0) 1 Trym.underlying22 Trym.info5 rfl .i64 .i64 len (by omega) (by omega)
  have hnil := fun (wx : World) (a : Option Addr) (n c : Nat) => Lib.run_eql_slice_nil (P := Trym.prog) wx 22 5 a n c 0 0 Trym.underlying22
  go_enter Trym.func7, Trym.ntmps7
  go_wp2
  go_loopw [4] (fun i wr => ∃ k : Nat, k ≤ len ∧ i = .int .i64 k ∧ wr.rowIs w.heap.size 5 len (fun j => if j < k then .int .u8 (zs.getD j 0) else .int .u8 0) ∧ Below w.heap.size w wr)
    (fun i _ => len - (intOf i).toNat)
  case atStart => exact ⟨0, Nat.zero_le _, rfl, (World.rowIs_made w (.int .u8 0) len 5).congr (by intro i hi; simp), (Below.refl _ _).alloc (Nat.le_refl _) _⟩
  case round =>
    obtain ⟨k, hk, rfl, hrow, hbel⟩ := hrel
    by_cases hlt : k < len
    · have hck : wr.cell? ⟨b, off + k, none⟩ = some (.int .u8 (zs.getD k 0)) := (hbel.cell (by exact hb)).trans (hc k hlt)
      have hcg := hrow.cell hlt
      have hfg := hrow.frozen k
      go_wp2
      go_roundw
      case rel =>
        refine ⟨k + 1, by omega, by go_num, (hrow.set k _).congr ?_, hbel.setCell (by simp) _⟩
        intro i hi
        by_cases e : i = k
        · subst e; simp
        · rw [if_neg e]
          by_cases e2 : i < k
          · rw [if_pos e2, if_pos (by omega)]
          · rw [if_neg e2, if_neg (by omega)]
      case measure => simp [intOf]; omega
    · go_wp2
      go_ret
      refine ⟨rfl, hrow.congr ?_, hbel⟩
      intro i hi
      rw [if_pos (by omega)]

/-- 'put2': two stores. -/
theorem put2_in (g off n c : Nat) (v : Int) (w : World) (h0 : 0 ≤ v) (h1 : v ≤ 99) (hn : 2 ≤ n) (u0 u1 : Value)
    (c0 : w.cell? ⟨g, off, none⟩ = some u0) (c1 : w.cell? ⟨g, off + 1, none⟩ = some u1)
    (f0 : w.frozen? ⟨g, off, none⟩ = false) (f1 : w.frozen? ⟨g, off + 1, none⟩ = false) :
    Calls Trym.prog 16 #[.slice (some ⟨g, off, none⟩) n c, .int .i64 v] w fun e w' => e = .returned (.tuple #[]) ∧
      w' = (w.setCell ⟨g, off, none⟩ (.int .u8 (48 + v / 10))).setCell ⟨g, off + 1, none⟩ (.int .u8 (48 + v % 10)) := by
  have hl : (1 : Int) < (n : Int) := by omega
  have hl0 : (0 : Int) < (n : Int) := by omega
  go_enter Trym.func16, Trym.ntmps16
  go_wp2
  go_end0
  exact ⟨rfl, rfl⟩

theorem put2_any (g off n c : Nat) (v : Int) (w : World) (h0 : 0 ≤ v) (h1 : v ≤ 99) (hn : 2 ≤ n) (u0 u1 : Value)
    (c0 : w.cell? ⟨g, off, none⟩ = some u0) (c1 : w.cell? ⟨g, off + 1, none⟩ = some u1)
    (f0 : w.frozen? ⟨g, off, none⟩ = false) (f1 : w.frozen? ⟨g, off + 1, none⟩ = false) :
    Calls Trym.prog 8 #[.slice (some ⟨g, off, none⟩) n c, .int .i64 v] w fun e w' => e = .returned (.tuple #[]) ∧
      w' = (w.setCell ⟨g, off, none⟩ (.int .u8 (48 + v / 10))).setCell ⟨g, off + 1, none⟩ (.int .u8 (48 + v % 10)) := by
  go_enter Trym.func8, Trym.ntmps8
  go_wp2_with (go_at_call 16; refine (put2_in g off n c v _ h0 h1 hn u0 u1 c0 c1 f0 f1).mono ?_; rintro e w' ⟨rfl, rfl⟩)
  go_end0
  exact ⟨rfl, rfl⟩

set_option maxHeartbeats 400000 in
/-- 'restSame': two rows that agree from k on. -/
theorem rest_any (b1 o1 b2 o2 n c1 c2 : Nat) (k : Nat) (f : Nat → Int) (w : World) (hn : n ≤ 65536) (hk : k ≤ n)
    (hx : ∀ j, k ≤ j → j < n → w.cell? ⟨b1, o1 + j, none⟩ = some (.int .u8 (f j)))
    (hy : ∀ j, k ≤ j → j < n → w.cell? ⟨b2, o2 + j, none⟩ = some (.int .u8 (f j))) :
    Calls Trym.prog 10 #[.slice (some ⟨b1, o1, none⟩) n c1, .slice (some ⟨b2, o2, none⟩) n c2, .int .i64 k] w fun e w' => e = .returned (.bool true) ∧ ∃ m, w' = w.drewN m := by
  go_enter Trym.func10, Trym.ntmps10
  go_wp2
  go_loopw [7] (fun i wr => ∃ j : Nat, k ≤ j ∧ j ≤ n ∧ i = .int .i64 j ∧ ∃ m, wr = w.drewN m) (fun i _ => n - (intOf i).toNat)
  case atStart => exact ⟨k, Nat.le_refl _, hk, rfl, 0, rfl⟩
  case round =>
    obtain ⟨j, hj1, hj2, rfl, m, rfl⟩ := hrel
    by_cases hlt : j < n
    · have hcx := hx j hj1 hlt
      have hcy := hy j hj1 hlt
      go_wp2
      go_quiet (fail)
      go_wp2
      go_roundw
      case rel => exact ⟨j + 1, by omega, by omega, by go_num, _, rfl⟩
      case measure => simp [intOf]; omega
    · go_wp2
      go_ret
      exact ⟨rfl, m, rfl⟩

/-- 'digitsOf2' at a row whose first two cells are the digits of v. -/
theorem digits_any (g o n c : Nat) (v : Int) (w : World) (hn : 2 ≤ n) (h0 : 0 ≤ v) (h1 : v ≤ 99)
    (c0 : w.cell? ⟨g, o, none⟩ = some (.int .u8 (48 + v / 10))) (c1 : w.cell? ⟨g, o + 1, none⟩ = some (.int .u8 (48 + v % 10))) :
    Calls Trym.prog 9 #[.slice (some ⟨g, o, none⟩) n c, .int .i64 v] w fun e w' => e = .returned (.bool true) ∧ ∃ m, w' = w.drewN m := by
  have hl : (1 : Int) < (n : Int) := by omega
  have hl0 : (0 : Int) < (n : Int) := by omega
  go_enter Trym.func9, Trym.ntmps9
  go_wp2
  go_quiet (fail)
  go_wp2
  go_ret
  have e : (48 + v / 10 - 48) * 10 + (48 + v % 10 - 48) = v := by omega
  exact ⟨by simp [e], _, rfl⟩

/-- What 'cmpFirstTwo' says of two pairs of bytes. -/
def cmpZ (v u : Int) : Int := if v < u then -1 else if u < v then 1 else 0
def cmp2 (x0 x1 y0 y1 : Int) : Int := if x0 = y0 then cmpZ x1 y1 else cmpZ x0 y0
theorem ret_int {k : IntKind} {a b : Int} (h : a = b) : Ending.returned (.int k a) = .returned (.int k b) := by rw [h]
theorem cmp2_a {x0 x1 y0 y1 : Int} (h : Hid (x0 < y0)) : -1 = cmp2 x0 x1 y0 y1 := by
  have := h.out
  rw [cmp2, if_neg (by omega), cmpZ, if_pos this]
theorem cmp2_b {x0 x1 y0 y1 : Int} (h : Hid (y0 < x0)) : 1 = cmp2 x0 x1 y0 y1 := by
  have := h.out
  rw [cmp2, if_neg (by omega), cmpZ, if_neg (by omega), if_pos this]
theorem cmp2_c {x0 x1 y1 : Int} (h : Hid (x1 < y1)) : -1 = cmp2 x0 x1 x0 y1 := by
  have := h.out
  rw [cmp2, if_pos rfl, cmpZ, if_pos this]
theorem cmp2_d {x0 x1 y1 : Int} (h : Hid (y1 < x1)) : 1 = cmp2 x0 x1 x0 y1 := by
  have := h.out
  rw [cmp2, if_pos rfl, cmpZ, if_neg (by omega), if_pos this]
theorem cmp2_e {x0 x1 : Int} : 0 = cmp2 x0 x1 x0 x1 := by
  rw [cmp2, if_pos rfl, cmpZ, if_neg (by omega), if_neg (by omega)]

set_option maxHeartbeats 1000000 in
/-- 'cmpFirstTwo' at two rows whose first two cells are known. -/
theorem cmp_any (g1 o1 n1 c1 g2 o2 n2 c2 : Nat) (x0 x1 y0 y1 : Int) (w : World) (hn1 : 2 ≤ n1) (hn2 : 2 ≤ n2)
    (a0 : w.cell? ⟨g1, o1, none⟩ = some (.int .u8 x0)) (a1 : w.cell? ⟨g1, o1 + 1, none⟩ = some (.int .u8 x1))
    (b0 : w.cell? ⟨g2, o2, none⟩ = some (.int .u8 y0)) (b1 : w.cell? ⟨g2, o2 + 1, none⟩ = some (.int .u8 y1)) :
    Calls Trym.prog 11 #[.slice (some ⟨g1, o1, none⟩) n1 c1, .slice (some ⟨g2, o2, none⟩) n2 c2] w fun e w' =>
      e = .returned (.int .i64 (cmp2 x0 x1 y0 y1)) ∧ ∃ m, w' = w.drewN m := by
  have hl1 : (1 : Int) < (n1 : Int) := by omega
  have hl2 : (1 : Int) < (n2 : Int) := by omega
  have hl01 : (0 : Int) < (n1 : Int) := by omega
  have hl02 : (0 : Int) < (n2 : Int) := by omega
  rcases (show x0 < y0 ∨ (¬ x0 < y0 ∧ y0 < x0) ∨ x0 = y0 from by omega) with h | ⟨h', h⟩ | h
  · have H : Hid (x0 < y0) := h
    go_enter Trym.func11, Trym.ntmps11
    go_wp2
    refine wp_loop_rounds 1 ?_
    rw [rounds_succ]
    go_wp2
    go_quiet (fail)
    go_wp2
    go_ret
    exact ⟨ret_int (cmp2_a H), by repeat (first | exact drawn_refl _ | apply drawn_more)⟩
  · have H : Hid (y0 < x0) := h
    go_enter Trym.func11, Trym.ntmps11
    go_wp2
    refine wp_loop_rounds 1 ?_
    rw [rounds_succ]
    go_wp2
    go_quiet (fail)
    go_wp2
    go_quiet (fail)
    go_wp2
    go_ret
    exact ⟨ret_int (cmp2_b H), by repeat (first | exact drawn_refl _ | apply drawn_more)⟩
  · subst h
    rcases (show x1 < y1 ∨ (¬ x1 < y1 ∧ y1 < x1) ∨ x1 = y1 from by omega) with h | ⟨h', h⟩ | h
    · have H : Hid (x1 < y1) := h
      go_enter Trym.func11, Trym.ntmps11
      go_wp2
      refine wp_loop_rounds 2 ?_
      rw [rounds_succ]
      go_wp2
      go_quiet (fail)
      go_wp2
      go_quiet (fail)
      go_wp2
      rw [rounds_succ]
      go_wp2
      go_quiet (fail)
      go_wp2
      go_ret
      exact ⟨ret_int (cmp2_c H), by repeat (first | exact drawn_refl _ | apply drawn_more)⟩
    · have H : Hid (y1 < x1) := h
      go_enter Trym.func11, Trym.ntmps11
      go_wp2
      refine wp_loop_rounds 2 ?_
      rw [rounds_succ]
      go_wp2
      go_quiet (fail)
      go_wp2
      go_quiet (fail)
      go_wp2
      rw [rounds_succ]
      go_wp2
      go_quiet (fail)
      go_wp2
      go_quiet (fail)
      go_wp2
      go_ret
      exact ⟨ret_int (cmp2_d H), by repeat (first | exact drawn_refl _ | apply drawn_more)⟩
    · subst h
      go_enter Trym.func11, Trym.ntmps11
      go_wp2
      refine wp_loop_rounds 3 ?_
      rw [rounds_succ]
      go_wp2
      go_quiet (fail)
      go_wp2
      go_quiet (fail)
      go_wp2
      rw [rounds_succ]
      go_wp2
      go_quiet (fail)
      go_wp2
      go_quiet (fail)
      go_wp2
      rw [rounds_succ]
      go_wp2
      go_ret
      exact ⟨ret_int (cmp2_e), by repeat (first | exact drawn_refl _ | apply drawn_more)⟩

theorem bytes6 (a : Option Addr) (len cap : Nat) (n m : Int) (w : World) (h : len ≤ 1048576) :
    Calls Trym.prog 6 #[.slice a len cap, .int .i64 n, .int .i64 m] w fun e w' => e = .returned (.bool true) ∧ w = w' := by
  have h1 : ¬ (1048576 : Int) < (len : Int) := by omega
  go_enter Trym.func6, Trym.ntmps6
  go_wp2
  go_ret
  exact ⟨rfl, rfl⟩

theorem bytes12_no (a : Option Addr) (len cap : Nat) (n : Int) (w : World) (h : 1048576 < len) :
    Calls Trym.prog 12 #[.slice a len cap, .int .i64 n] w fun e w' => e = .returned (.bool false) ∧ w = w' := by
  have h2 : (1048576 : Int) < (len : Int) := by omega
  go_enter Trym.func12, Trym.ntmps12
  go_wp2
  go_ret
  exact ⟨rfl, rfl⟩

theorem bytes6_no (a : Option Addr) (len cap : Nat) (n m : Int) (w : World) (h : 1048576 < len) :
    Calls Trym.prog 6 #[.slice a len cap, .int .i64 n, .int .i64 m] w fun e w' => e = .returned (.bool false) ∧ w = w' := by
  have h2 : (1048576 : Int) < (len : Int) := by omega
  go_enter Trym.func6, Trym.ntmps6
  go_wp2
  go_ret
  exact ⟨rfl, rfl⟩
end Go.Proofs.Qxb6616875aMods
