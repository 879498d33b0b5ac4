/- Plain arithmetic for seat b6617080aM: no Go in sight. -/
import Derived.WalkKit
import Derived.Deep.OwnRows
import Derived.Laws.CopyOwn
namespace Go.Proofs.Qxb6617080aMods
open Go.RowKit Go.Deep
set_option linter.unusedVariables false

/-- The little-endian sum. -/
def le : List Int → Int
  | [] => 0
  | z :: r => z + 256 * le r

theorem le_bd : ∀ (zs : List Int), (∀ z ∈ zs, 0 ≤ z ∧ z ≤ 255) → 0 ≤ le zs ∧ le zs + 1 ≤ ((256 ^ zs.length : Nat) : Int)
  | [], _ => by simp [le]
  | z :: r, h => by
    have h1 := h z (by simp)
    have h2 := le_bd r (fun y hy => h y (by simp [hy]))
    simp only [le, List.length_cons, Nat.pow_succ]
    constructor
    · omega
    · have : (((256 ^ r.length * 256 : Nat)) : Int) = ((256 ^ r.length : Nat) : Int) * 256 := by simp
      rw [this]; omega

theorem le_bd7 (zs : List Int) (h : ∀ z ∈ zs, 0 ≤ z ∧ z ≤ 255) (hl : zs.length ≤ 7) : 0 ≤ le zs ∧ le zs ≤ 72057594037927935 := by
  have h1 := le_bd zs h
  have h2 : 256 ^ zs.length ≤ 256 ^ 7 := Nat.pow_le_pow_right (by decide) hl
  have h3 : (256 : Nat) ^ 7 = 72057594037927936 := by decide
  omega

theorem le_drop (zs : List Int) (q : Nat) (h : q < zs.length) : le (zs.drop q) = zs.getD q 0 + 256 * le (zs.drop (q + 1)) := by
  rw [List.drop_eq_getElem_cons h, le]
  simp [List.getD, h]

theorem le_snoc : ∀ (l : List Int) (t : Int), le (l ++ [t]) = le l + t * ((256 ^ l.length : Nat) : Int)
  | [], t => by simp [le]
  | z :: r, t => by
    simp only [List.cons_append, le, le_snoc r t, List.length_cons, Nat.pow_succ]
    have : (((256 ^ r.length * 256 : Nat)) : Int) = 256 * ((256 ^ r.length : Nat) : Int) := by simp [Int.mul_comm]
    rw [this, Int.mul_add, Int.mul_left_comm]
    omega

theorem or_step (X z : Int) (h0 : 0 ≤ X) (h1 : X ≤ 72057594037927935) (hz0 : 0 ≤ z) (hz1 : z ≤ 255) :
    bits .or .u64 (IntKind.u64.wrap (X * 256)) (IntKind.u64.wrap z) = z + 256 * X := by
  rw [IntKind.wrap_u64, IntKind.wrap_u64, show X * 256 % 18446744073709551616 = X * 256 by omega, show z % 18446744073709551616 = z by omega]
  rw [u64_or _ _ (by omega) (by omega) (by omega) (by omega), nat_join 8 _ _ (by omega) (by omega)]
  omega

/-- 'x ^ 0x80' on a byte. -/
theorem xor128 (x : Int) (h0 : 0 ≤ x) (h1 : x ≤ 255) : bits .xor .u8 x 128 = if x < 128 then x + 128 else x - 128 := by
  obtain ⟨n, rfl⟩ : ∃ n : Nat, x = n := ⟨x.toNat, by omega⟩
  have hn : n < 256 := by omega
  have h : ∀ n : Fin 256, bits .xor .u8 (n.val : Int) 128 = if (n.val : Int) < 128 then (n.val : Int) + 128 else (n.val : Int) - 128 := by decide +kernel
  exact h ⟨n, hn⟩

/-- The value of a signed integer of n bytes. -/
def sgn (n : Nat) (u : Int) : Int := if u < ((2 ^ (8 * n - 1) : Nat) : Int) then u else u - ((2 ^ (8 * n) : Nat) : Int)
theorem sgn1 (u : Int) : sgn 1 u = if u < 128 then u else u - 256 := rfl
theorem sgn2 (u : Int) : sgn 2 u = if u < 32768 then u else u - 65536 := rfl
theorem sgn3 (u : Int) : sgn 3 u = if u < 8388608 then u else u - 16777216 := rfl
theorem sgn4 (u : Int) : sgn 4 u = if u < 2147483648 then u else u - 4294967296 := rfl
theorem sgn8 (u : Int) : sgn 8 u = if u < 9223372036854775808 then u else u - 18446744073709551616 := rfl
theorem shift1 (u : Int) (h0 : 0 ≤ u) (h1 : u ≤ 255) : wrap64 (u * 72057594037927936) / 72057594037927936 = sgn 1 u := by
  rw [sgn1]; unfold wrap64; split <;> omega
theorem shift2 (u : Int) (h0 : 0 ≤ u) (h1 : u ≤ 65535) : wrap64 (u * 281474976710656) / 281474976710656 = sgn 2 u := by
  rw [sgn2]; unfold wrap64; split <;> omega
theorem shift3 (u : Int) (h0 : 0 ≤ u) (h1 : u ≤ 16777215) : wrap64 (u * 1099511627776) / 1099511627776 = sgn 3 u := by
  rw [sgn3]; unfold wrap64; split <;> omega
theorem shift4 (u : Int) (h0 : 0 ≤ u) (h1 : u ≤ 4294967295) : wrap64 (u * 4294967296) / 4294967296 = sgn 4 u := by
  rw [sgn4]; unfold wrap64; split <;> omega
theorem shift8 (u : Int) (h0 : 0 ≤ u) (h1 : u ≤ 18446744073709551615) : wrap64 u = sgn 8 u := by
  rw [sgn8]; unfold wrap64; split <;> omega

/-- 'c := make([]byte, len(x)); copy(c, x)': the copy, behind the make: a row of its own that reads as x did. -/
theorem copy_fresh {P : Program} (w : World) (b off len cap : Nat) (f : Nat → Value) (hu : P.underlying 22 = some (.slice 5)) (hs : (P.info? 5).map (·.size) = some 1)
    (hb : b < w.heap.size) (hc : ∀ j, j < len → w.cell? ⟨b, off + j, none⟩ = some (f j)) (h1 : ∀ j, (f j).oneCell' = true) :
    ∃ W, (Builtin.copy_ #[22, 22] 3 #[.slice (some ⟨w.heap.size, 0, none⟩) len len, .slice (some ⟨b, off, none⟩) len cap]).run P (w.alloc (.cells (madeCells #[.int .u8 0] len) 5)) = .ok (.int .i64 len) W ∧
      W.rowIs w.heap.size 5 len f ∧ Below w.heap.size w W := by
  have hg : (w.alloc (.cells (madeCells #[.int .u8 0] len) 5)).heap[w.heap.size]? = some (.cells (madeCells #[.int .u8 0] len) 5 (0, 0)) := heap_alloc_new _ _
  have hsz := size_madeCells #[.int .u8 0] len
  obtain ⟨cs, hcs⟩ : ∃ cs, cs = (List.range len).map f := ⟨_, rfl⟩
  have hl : cs.length = len := by rw [hcs]; simp
  have hrun := run_copy_row (P := P) (w.alloc (.cells (madeCells #[.int .u8 0] len) 5)) 22 22 3 5 w.heap.size 0 len len ⟨b, off, none⟩ len cap (madeCells #[.int .u8 0] len) 5 cs hu hs hg
    (by rw [hl]; exact (Nat.min_self _).symm)
    (by
      intro j v hj
      have hjl : j < len := by
        have := (List.getElem?_eq_some_iff.1 hj).1
        omega
      rw [Addr.add_lit, World.cell?_alloc_lt _ _ _ (by exact hb), hc j hjl]
      rw [hcs] at hj
      simpa [hjl] using hj)
    (by rw [hl, hsz]; omega)
    (by
      intro v hv
      rw [hcs] at hv
      obtain ⟨j, _, rfl⟩ := List.mem_map.1 hv
      exact h1 j)
  rw [hl] at hrun
  have e : ((madeCells #[.int .u8 0] len).toList.take 0 ++ cs ++ (madeCells #[.int .u8 0] len).toList.drop (0 + len)).toArray = cs.toArray := by
    rw [List.drop_of_length_le (by simp [hsz])]
    simp
  rw [e] at hrun
  refine ⟨_, hrun, ⟨cs.toArray, setRow_heap _ _ _ _ 5 _ hg, by simpa using hl, ?_⟩, below_setRow ((Below.refl _ _).alloc (Nat.le_refl _) _) (Nat.le_refl _) _⟩
  intro i hi
  rw [hcs]
  simp [hi]
end Go.Proofs.Qxb6617080aMods
