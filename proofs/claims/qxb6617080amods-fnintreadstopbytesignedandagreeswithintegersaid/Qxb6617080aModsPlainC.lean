/- Plain arithmetic for seat b6617080aM: the signed digits, the mask. -/
import Derived.Test.Qxb6617080aModsPlainB
namespace Go.Proofs.Qxb6617080aMods
open Go.RowKit Go.Deep
set_option linter.unusedVariables false

/-- The power of 256, behind a name. -/
def p256 (k : Nat) : Int := ((256 ^ k : Nat) : Int)
theorem p256_succ (k : Nat) : p256 (k + 1) = p256 k * 256 := by simp [p256, Nat.pow_succ]
theorem p256_cases (k : Nat) (h : k ≤ 7) : (k = 0 ∧ p256 k = 1) ∨ (k = 1 ∧ p256 k = 256) ∨ (k = 2 ∧ p256 k = 65536) ∨ (k = 3 ∧ p256 k = 16777216) ∨ (k = 4 ∧ p256 k = 4294967296) ∨ (k = 5 ∧ p256 k = 1099511627776) ∨ (k = 6 ∧ p256 k = 281474976710656) ∨ (k = 7 ∧ p256 k = 72057594037927936) := by
  rcases (show k = 0 ∨ k = 1 ∨ k = 2 ∨ k = 3 ∨ k = 4 ∨ k = 5 ∨ k = 6 ∨ k = 7 by omega) with rfl | rfl | rfl | rfl | rfl | rfl | rfl | rfl <;> simp [p256]

theorem le_take_succ (zs : List Int) (k : Nat) (h : k < zs.length) : le (zs.take (k + 1)) = le (zs.take k) + zs.getD k 0 * p256 k := by
  have e := le_last (zs.take (k + 1)) k (by simp; omega)
  rw [e, List.take_take, show min k (k + 1) = k by omega]
  congr 1
  have : (zs.take (k + 1)).getD k 0 = zs.getD k 0 := by simp [List.getD]
  rw [this]
  rfl

theorem dig_p (k : Nat) (h : k ≤ 6) : wrap64 (p256 k * 256) = p256 (k + 1) := by
  rw [p256_succ]
  have := p256_cases k (by omega)
  unfold wrap64
  omega

theorem dig_v (zs : List Int) (k : Nat) (h : k ≤ 6) (hk : k < zs.length) (hbd : ∀ z ∈ zs, 0 ≤ z ∧ z ≤ 255) :
    wrap64 (le (zs.take k) + wrap64 (wrap64 (zs[k]?.getD 0) * p256 k)) = le (zs.take (k + 1)) := by
  have hx : zs[k]?.getD 0 = zs.getD k 0 := by simp [List.getD]
  have hb := getD_bd hbd hk
  rw [hx, le_take_succ zs k hk]
  have hp := le_bd (zs.take k) (fun z hz => hbd z (List.mem_of_mem_take hz))
  rw [show (zs.take k).length = k by simp; omega] at hp
  have hp' : le (zs.take k) + 1 ≤ p256 k := hp.2
  generalize zs.getD k 0 = z at hb
  generalize le (zs.take k) = l at hp hp'
  have e : wrap64 z = z := by unfold wrap64; omega
  rw [e]
  rcases p256_cases k (by omega) with ⟨_, g⟩ | ⟨_, g⟩ | ⟨_, g⟩ | ⟨_, g⟩ | ⟨_, g⟩ | ⟨_, g⟩ | ⟨_, g⟩ | ⟨_, g⟩ <;> rw [g] at hp' ⊢ <;> unfold wrap64 <;> omega

theorem wrap_i8 (x : Int) (h0 : 0 ≤ x) (h1 : x ≤ 255) : IntKind.i8.wrap x = if x < 128 then x else x - 256 := by
  have : IntKind.i8.wrap x = (x + 128) % 256 - 128 := by simp [IntKind.wrap, IntKind.bits, IntKind.signed]; split <;> omega
  rw [this]
  split <;> omega

theorem dig_end (len : Nat) (zs : List Int) (hl : len = 1 ∨ len = 2 ∨ len = 3 ∨ len = 4 ∨ len = 8) (hzl : zs.length = len) (hbd : ∀ z ∈ zs, 0 ≤ z ∧ z ≤ 255) :
    wrap64 (le (zs.take (len - 1)) + wrap64 (wrap64 (IntKind.i8.wrap (zs[len - 1]?.getD 0)) * p256 (len - 1))) = sgn len (le zs) := by
  have hx : zs[len - 1]?.getD 0 = zs.getD (len - 1) 0 := by simp [List.getD]
  have hb := getD_bd hbd (j := len - 1) (by omega)
  rw [hx, le_last zs (len - 1) (by omega), wrap_i8 _ hb.1 hb.2]
  have hp := le_bd (zs.take (len - 1)) (fun z hz => hbd z (List.mem_of_mem_take hz))
  rw [show (zs.take (len - 1)).length = len - 1 by simp; omega] at hp
  generalize zs.getD (len - 1) 0 = z at hb
  generalize le (zs.take (len - 1)) = l at hp
  clear hx hzl hbd
  rcases hl with rfl | rfl | rfl | rfl | rfl
  · simp only [show (256 ^ (1 - 1) : Nat) = 1 from rfl, show p256 (1 - 1) = 1 from rfl] at *
    rw [sgn1]; unfold wrap64
    by_cases h : z < 128
    · rw [if_pos h, if_pos (by omega)]; omega
    · rw [if_neg h, if_neg (by omega)]; omega
  · simp only [show (256 ^ (2 - 1) : Nat) = 256 from rfl, show p256 (2 - 1) = 256 from rfl] at *
    rw [sgn2]; unfold wrap64
    by_cases h : z < 128
    · rw [if_pos h, if_pos (by omega)]; omega
    · rw [if_neg h, if_neg (by omega)]; omega
  · simp only [show (256 ^ (3 - 1) : Nat) = 65536 from rfl, show p256 (3 - 1) = 65536 from rfl] at *
    rw [sgn3]; unfold wrap64
    by_cases h : z < 128
    · rw [if_pos h, if_pos (by omega)]; omega
    · rw [if_neg h, if_neg (by omega)]; omega
  · simp only [show (256 ^ (4 - 1) : Nat) = 16777216 from rfl, show p256 (4 - 1) = 16777216 from rfl] at *
    rw [sgn4]; unfold wrap64
    by_cases h : z < 128
    · rw [if_pos h, if_pos (by omega)]; omega
    · rw [if_neg h, if_neg (by omega)]; omega
  · simp only [show (256 ^ (8 - 1) : Nat) = 72057594037927936 from rfl, show p256 (8 - 1) = 72057594037927936 from rfl] at *
    rw [sgn8]; unfold wrap64
    by_cases h : z < 128
    · rw [if_pos h, if_pos (by omega)]; omega
    · rw [if_neg h, if_neg (by omega)]; omega

/-- The low 8n bits of the signed value are the bits themselves. -/
theorem mask_eq (n m : Nat) (u v : Int) (hn : n ≤ 64) (hu0 : 0 ≤ u) (hu1 : u < ((2 ^ n : Nat) : Int)) (hm : m = 2 ^ n - 1) (hv : v = u ∨ v = u - ((2 ^ n : Nat) : Int)) :
    bits .and .u64 (IntKind.u64.wrap v) (m : Int) = u := by
  have hp : 2 ^ n ≤ 2 ^ 64 := Nat.pow_le_pow_right (by decide) hn
  have h64 : (2 : Nat) ^ 64 = 18446744073709551616 := by decide
  have hp0 : 0 < 2 ^ n := Nat.pow_pos (by decide)
  have hd : (2 ^ n : Nat) ∣ 18446744073709551616 := by rw [← h64]; exact Nat.pow_dvd_pow 2 hn
  rw [IntKind.wrap_u64, u64_and _ _ (by omega) (by omega) (by omega) (by omega)]
  rw [show ((m : Int)).toNat = m by omega, hm, Nat.and_two_pow_sub_one_eq_mod]
  obtain ⟨q, hq⟩ := hd
  have e : ((v % 18446744073709551616).toNat % 2 ^ n : Nat) = u.toNat := by
    have e1 : (((v % 18446744073709551616).toNat % 2 ^ n : Nat) : Int) = (v % 18446744073709551616) % ((2 ^ n : Nat) : Int) := by
      rw [Int.natCast_emod, Int.toNat_of_nonneg (Int.emod_nonneg _ (by decide))]
    have e2 : (v % 18446744073709551616) % ((2 ^ n : Nat) : Int) = v % ((2 ^ n : Nat) : Int) :=
      Int.emod_emod_of_dvd _ ⟨(q : Int), by rw [← Int.natCast_mul, ← hq]; rfl⟩
    have e3 : v % ((2 ^ n : Nat) : Int) = u := by
      rcases hv with rfl | rfl
      · exact Int.emod_eq_of_lt hu0 hu1
      · rw [Int.sub_emod_right]; exact Int.emod_eq_of_lt hu0 hu1
    omega
  rw [e]
  omega

theorem sgn_or (n : Nat) (u : Int) : sgn n u = u ∨ sgn n u = u - ((2 ^ (8 * n) : Nat) : Int) := by
  unfold sgn; split <;> simp
end Go.Proofs.Qxb6617080aMods
