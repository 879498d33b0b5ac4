/- Plain arithmetic for seat b6617080aM: the flip of the top bit, the signed digits. -/
import Derived.Test.Qxb6617080aModsPlain
namespace Go.Proofs.Qxb6617080aMods
open Go.RowKit Go.Deep
set_option linter.unusedVariables false

/-- A byte with its top bit flipped. -/
def flip1 (x : Int) : Int := if x < 128 then x + 128 else x - 128
theorem xor_flip (x : Int) (h0 : 0 ≤ x) (h1 : x ≤ 255) : bits .xor .u8 x 128 = flip1 x := xor128 x h0 h1
theorem flip1_bd (x : Int) (h0 : 0 ≤ x) (h1 : x ≤ 255) : 0 ≤ flip1 x ∧ flip1 x ≤ 255 := by unfold flip1; split <;> omega
theorem getD_bd {zs : List Int} (hbd : ∀ z ∈ zs, 0 ≤ z ∧ z ≤ 255) {j : Nat} (hj : j < zs.length) : 0 ≤ zs.getD j 0 ∧ zs.getD j 0 ≤ 255 := by
  have : zs.getD j 0 = zs[j] := by simp [List.getD, hj]
  rw [this]; exact hbd _ (List.getElem_mem _)
theorem set_bd {zs : List Int} (hbd : ∀ z ∈ zs, 0 ≤ z ∧ z ≤ 255) {y : Int} (hy : 0 ≤ y ∧ y ≤ 255) (j : Nat) : ∀ z ∈ zs.set j y, 0 ≤ z ∧ z ≤ 255 := by
  intro z hz
  rcases List.mem_or_eq_of_mem_set hz with h | h
  · exact hbd z h
  · subst h; exact hy

/-- A list is its first bytes and its last. -/
theorem split_last (zs : List Int) (n : Nat) (h : zs.length = n + 1) : zs = zs.take n ++ [zs.getD n 0] := by
  have e : zs.getD n 0 = zs[n]'(by omega) := by simp [List.getD, show n < zs.length by omega]
  rw [e, ← List.take_succ_eq_append_getElem (by omega), List.take_of_length_le (by omega)]
theorem le_last (zs : List Int) (n : Nat) (h : zs.length = n + 1) : le zs = le (zs.take n) + zs.getD n 0 * ((256 ^ n : Nat) : Int) := by
  have e := split_last zs n h
  have e2 := le_snoc (zs.take n) (zs.getD n 0)
  rw [← e] at e2
  rw [e2]
  simp [show min n zs.length = n by omega]
theorem le_set_last (zs : List Int) (n : Nat) (y : Int) (h : zs.length = n + 1) : le (zs.set n y) = le (zs.take n) + y * ((256 ^ n : Nat) : Int) := by
  have h' : (zs.set n y).length = n + 1 := by simpa using h
  rw [le_last _ n h']
  have e1 : (zs.set n y).take n = zs.take n := by rw [List.take_set_of_le (Nat.le_refl _)]
  have e2 : (zs.set n y).getD n 0 = y := by simp [List.getD, show n < zs.length by omega]
  rw [e1, e2]

theorem flip_law (len : Nat) (zs : List Int) (hl : len = 1 ∨ len = 2 ∨ len = 3 ∨ len = 4 ∨ len = 8) (hzl : zs.length = len) (hbd : ∀ z ∈ zs, 0 ≤ z ∧ z ≤ 255) (x v f : Int)
    (hx : x = zs.getD (len - 1) 0) (hv : v = sgn len (le zs)) (hf : f = sgn len (le (zs.set (len - 1) (flip1 x)))) :
    (-9223372036854775808 ≤ v ∧ v ≤ 9223372036854775807 ∧ -9223372036854775808 ≤ f ∧ f ≤ 9223372036854775807) ∧
    ((x < 128 ∧ 0 ≤ v ∧ f < 0 ∧ v - f = ((2 ^ (8 * len - 1) : Nat) : Int)) ∨ (128 ≤ x ∧ v < 0 ∧ 0 ≤ f ∧ f - v = ((2 ^ (8 * len - 1) : Nat) : Int))) := by
  obtain ⟨n, rfl⟩ : ∃ n, len = n + 1 := ⟨len - 1, by omega⟩
  simp only [Nat.add_sub_cancel] at hx hf
  have hxb := getD_bd hbd (j := n) (by omega)
  rw [← hx] at hxb
  rw [le_set_last zs n _ hzl] at hf
  rw [le_last zs n hzl, ← hx] at hv
  have hp := le_bd (zs.take n) (fun z hz => hbd z (List.mem_of_mem_take hz))
  rw [show (zs.take n).length = n by simp; omega] at hp
  generalize le (zs.take n) = lo at hp hf hv
  have hfl := flip1_bd x hxb.1 hxb.2
  unfold flip1 at hf
  clear hfl hzl hbd hx
  rcases (show n = 0 ∨ n = 1 ∨ n = 2 ∨ n = 3 ∨ n = 7 by omega) with rfl | rfl | rfl | rfl | rfl
  · simp only [show (256 ^ 0 : Nat) = 1 from rfl, show (2 ^ (8 * (0 + 1) - 1) : Nat) = 128 from rfl] at *
    rw [sgn1] at hv hf
    by_cases h : x < 128
    · rw [if_pos h] at hf; rw [if_pos (by omega)] at hv; rw [if_neg (by omega)] at hf; omega
    · rw [if_neg h] at hf; rw [if_neg (by omega)] at hv; rw [if_pos (by omega)] at hf; omega
  · simp only [show (256 ^ 1 : Nat) = 256 from rfl, show (2 ^ (8 * (1 + 1) - 1) : Nat) = 32768 from rfl] at *
    rw [sgn2] at hv hf
    by_cases h : x < 128
    · rw [if_pos h] at hf; rw [if_pos (by omega)] at hv; rw [if_neg (by omega)] at hf; omega
    · rw [if_neg h] at hf; rw [if_neg (by omega)] at hv; rw [if_pos (by omega)] at hf; omega
  · simp only [show (256 ^ 2 : Nat) = 65536 from rfl, show (2 ^ (8 * (2 + 1) - 1) : Nat) = 8388608 from rfl] at *
    rw [sgn3] at hv hf
    by_cases h : x < 128
    · rw [if_pos h] at hf; rw [if_pos (by omega)] at hv; rw [if_neg (by omega)] at hf; omega
    · rw [if_neg h] at hf; rw [if_neg (by omega)] at hv; rw [if_pos (by omega)] at hf; omega
  · simp only [show (256 ^ 3 : Nat) = 16777216 from rfl, show (2 ^ (8 * (3 + 1) - 1) : Nat) = 2147483648 from rfl] at *
    rw [sgn4] at hv hf
    by_cases h : x < 128
    · rw [if_pos h] at hf; rw [if_pos (by omega)] at hv; rw [if_neg (by omega)] at hf; omega
    · rw [if_neg h] at hf; rw [if_neg (by omega)] at hv; rw [if_pos (by omega)] at hf; omega
  · simp only [show (256 ^ 7 : Nat) = 72057594037927936 from rfl, show (2 ^ (8 * (7 + 1) - 1) : Nat) = 9223372036854775808 from rfl] at *
    rw [sgn8] at hv hf
    by_cases h : x < 128
    · rw [if_pos h] at hf; rw [if_pos (by omega)] at hv; rw [if_neg (by omega)] at hf; omega
    · rw [if_neg h] at hf; rw [if_neg (by omega)] at hv; rw [if_pos (by omega)] at hf; omega
end Go.Proofs.Qxb6617080aMods
