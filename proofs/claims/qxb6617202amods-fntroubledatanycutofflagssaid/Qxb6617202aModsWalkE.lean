/- The callees of the laws over 'troubled'. -/
import Derived.Test.Qxb6617202aModsStrs
namespace Go.Proofs.Qxb6617202aMods
open Go.RowKit Go.Deep
set_option linter.unusedVariables false

def sFail : ByteArray := ⟨#[102, 97, 105, 108]⟩
def sFailMaybe : ByteArray := ⟨#[102, 97, 105, 108, 63]⟩
def sHand : ByteArray := ⟨#[104, 97, 110, 100, 115, 104, 97, 107, 101]⟩
def sNoAddr : ByteArray := ⟨#[110, 111, 97, 100, 100, 114]⟩

/-- Which trouble a flag tells of; 0: none. -/
def kind (f : ByteArray) : Nat := if f = sFail then 1 else if f = sFailMaybe then 2 else if f = sHand then 3 else if f = sNoAddr then 4 else 0
/-- The trouble's text. -/
def msg (k : Nat) : ByteArray :=
  if k = 1 then ⟨#[102, 97, 105, 108, 105, 110, 103, 32, 40, 102, 97, 105, 108, 41]⟩ else if k = 2 then ⟨#[102, 97, 105, 108, 105, 110, 103, 32, 40, 102, 97, 105, 108, 63, 41]⟩
  else if k = 3 then ⟨#[115, 116, 105, 108, 108, 32, 105, 110, 32, 104, 97, 110, 100, 115, 104, 97, 107, 101]⟩ else ⟨#[111, 102, 32, 110, 111, 32, 107, 110, 111, 119, 110, 32, 97, 100, 100, 114, 101, 115, 115]⟩
def sCut : ByteArray := ⟨#[110, 111, 116, 32, 99, 111, 110, 110, 101, 99, 116, 101, 100]⟩
/-- What is wrong with an entry whose first trouble is k. -/
def text (k : Nat) (conn : Bool) : ByteArray := if k = 0 then (if conn then ⟨#[]⟩ else sCut) else msg k

theorem not_is {f g : ByteArray} {l : List UInt8} (h : f ≠ g) (hl : g.data.toList = l) : (f.toList == l) = false := by
  rw [beq_eq_false_iff_ne, ByteArray.toList_eq, ← hl]
  intro e
  exact h (ByteArray.ext (Array.toList_inj.1 e))
theorem kind_cases (f : ByteArray) : f = sFail ∨ f = sFailMaybe ∨ f = sHand ∨ f = sNoAddr ∨ (kind f = 0 ∧ (f.toList == [102, 97, 105, 108]) = false ∧ (f.toList == [102, 97, 105, 108, 63]) = false ∧ (f.toList == [104, 97, 110, 100, 115, 104, 97, 107, 101]) = false ∧ (f.toList == [110, 111, 97, 100, 100, 114]) = false) := by
  by_cases h1 : f = sFail
  · exact .inl h1
  by_cases h2 : f = sFailMaybe
  · exact .inr (.inl h2)
  by_cases h3 : f = sHand
  · exact .inr (.inr (.inl h3))
  by_cases h4 : f = sNoAddr
  · exact .inr (.inr (.inr (.inl h4)))
  · exact .inr (.inr (.inr (.inr ⟨by simp [kind, h1, h2, h3, h4], not_is h1 rfl, not_is h2 rfl, not_is h3 rfl, not_is h4 rfl⟩)))
theorem kind_fail : kind sFail = 1 := by decide
theorem kind_failMaybe : kind sFailMaybe = 2 := by decide
theorem kind_hand : kind sHand = 3 := by decide
theorem kind_noAddr : kind sNoAddr = 4 := by decide

/-- Does a flag tell of trouble? -/
def tb (f : ByteArray) : Bool := kind f != 0
theorem ret_bool {a b : Bool} (h : a = b) : Ending.returned (.bool a) = .returned (.bool b) := by rw [h]
theorem ret_num {k : IntKind} {a b : Int} (h : a = b) : Ending.returned (.int k a) = .returned (.int k b) := by rw [h]
theorem ret_str {a b : ByteArray} (h : a = b) : Ending.returned (.string a) = .returned (.string b) := by rw [h]

theorem is23 (f : ByteArray) (w : World) : Calls Trym.prog 23 #[.string f] w fun e w' => e = .returned (.bool (tb f)) ∧ w = w' := by
  rcases kind_cases f with rfl | rfl | rfl | rfl | ⟨h0, h1, h2, h3, h4⟩
  · have H : Hid (true = tb sFail) := rfl
    generalize tb sFail = r at *
    unfold sFail
    go_enter Trym.func23, Trym.ntmps23
    go_wp2
    go_ret
    exact ⟨ret_bool H.out, rfl⟩
  · have H : Hid (true = tb sFailMaybe) := rfl
    generalize tb sFailMaybe = r at *
    unfold sFailMaybe
    go_enter Trym.func23, Trym.ntmps23
    go_wp2
    go_ret
    exact ⟨ret_bool H.out, rfl⟩
  · have H : Hid (true = tb sHand) := rfl
    generalize tb sHand = r at *
    unfold sHand
    go_enter Trym.func23, Trym.ntmps23
    go_wp2
    go_ret
    exact ⟨ret_bool H.out, rfl⟩
  · have H : Hid (true = tb sNoAddr) := rfl
    generalize tb sNoAddr = r at *
    unfold sNoAddr
    go_enter Trym.func23, Trym.ntmps23
    go_wp2
    go_ret
    exact ⟨ret_bool H.out, rfl⟩
  · have H : Hid (false = tb f) := by unfold tb; rw [h0]; exact rfl
    clear h0
    go_enter Trym.func23, Trym.ntmps23
    go_wp2
    go_ret
    exact ⟨ret_bool H.out, rfl⟩

/-- The kind of the first trouble among m flags from i on; 0: none. -/
def fk (F : Nat → ByteArray) : Nat → Nat → Nat
  | 0, _ => 0
  | m + 1, i => if kind (F i) = 0 then fk F m (i + 1) else kind (F i)
/-- The place of the first trouble among m flags from i on; -1: none. -/
def fi (F : Nat → ByteArray) : Nat → Nat → Int
  | 0, _ => -1
  | m + 1, i => if kind (F i) = 0 then fi F m (i + 1) else i
theorem fk_step (F : Nat → ByteArray) {n i : Nat} (h : i < n) : fk F (n - i) i = if kind (F i) = 0 then fk F (n - (i + 1)) (i + 1) else kind (F i) := by
  rw [show n - i = (n - (i + 1)) + 1 by omega, fk]
theorem fi_step (F : Nat → ByteArray) {n i : Nat} (h : i < n) : fi F (n - i) i = if kind (F i) = 0 then fi F (n - (i + 1)) (i + 1) else i := by
  rw [show n - i = (n - (i + 1)) + 1 by omega, fi]
theorem fi_fk (F : Nat → ByteArray) : ∀ m i, (fi F m i = -1 ∧ fk F m i = 0) ∨ ∃ k : Nat, i ≤ k ∧ k < i + m ∧ fi F m i = k ∧ fk F m i = kind (F k) ∧ kind (F k) ≠ 0
  | 0, i => .inl ⟨rfl, rfl⟩
  | m + 1, i => by
    by_cases h : kind (F i) = 0
    · simp only [fi, fk, if_pos h]
      rcases fi_fk F m (i + 1) with h' | ⟨k, h1, h2, h3⟩
      · exact .inl h'
      · exact .inr ⟨k, by omega, by omega, h3⟩
    · simp only [fi, fk, if_neg h]
      exact .inr ⟨i, Nat.le_refl _, by omega, rfl, rfl, h⟩

set_option maxHeartbeats 400000 in
theorem first16 (a : Option Addr) (n cap : Nat) (F : Nat → ByteArray) (w : World) (hn : n ≤ 9223372036854775807) (hs : Strs w a n F) :
    Calls Trym.prog 16 #[.slice a n cap] w fun e w' => e = .returned (.int .i64 (fi F n 0)) ∧ w = w' := by
  have HS : Hid (Strs w a n F) := hs
  clear hs
  go_enter Trym.func16, Trym.ntmps16
  go_wp2_with fail
  go_loop [3] (fun p => ∃ i : Nat, i ≤ n ∧ p = .int .i64 i ∧ Hid (fi F n 0 = fi F (n - i) i)) (fun p => n - (intOf p).toNat)
  case atStart => exact ⟨0, Nat.zero_le _, rfl, rfl⟩
  case round =>
    obtain ⟨i, hi, rfl, HI⟩ := hrel
    by_cases hlt : i < n
    · obtain ⟨b, off, rfl, hc⟩ := HS.out i hlt
      have h23 : Hid (∀ w, Calls Trym.prog 23 #[.string (F i)] w fun e w' => e = .returned (.bool (tb (F i))) ∧ w = w') := is23 (F i)
      have hst := fi_step F hlt
      by_cases hk : kind (F i) = 0
      · have ht : tb (F i) = false := by simp [tb, hk]
        have HI2 : Hid (fi F n 0 = fi F (n - (i + 1)) (i + 1)) := by
          have := HI.out
          rw [hst, if_pos hk] at this
          exact this
        clear hst hk HI
        generalize F i = f at *
        go_wp2_with (go_at_call 23; refine (h23.out _).mono ?_; rintro e w' ⟨rfl, rfl⟩)
        go_round
        case rel => exact ⟨i + 1, by omega, by go_num, HI2⟩
        case measure => simp [intOf]; omega
      · have ht : tb (F i) = true := by simp [tb, hk]
        have HI2 : Hid ((i : Int) = fi F n 0) := by
          have := HI.out
          rw [hst, if_neg hk] at this
          exact this.symm
        clear hst hk HI
        generalize F i = f at *
        go_wp2_with (go_at_call 23; refine (h23.out _).mono ?_; rintro e w' ⟨rfl, rfl⟩)
        go_ret
        exact ⟨ret_num HI2.out, rfl⟩
    · have hie : i = n := by omega
      subst hie
      have HI2 : Hid ((-1 : Int) = fi F i 0) := by
        have := HI.out
        rw [Nat.sub_self] at this
        exact this.symm
      go_wp2_with fail
      go_ret
      exact ⟨ret_num HI2.out, rfl⟩
end Go.Proofs.Qxb6617202aMods
