/- 'shareOut': the walk, first part. -/
import Derived.Test.Qxb6617202aModsSets
import Derived.Deep.Cut
import Derived.Deep.CutBlock
namespace Go.Proofs.Qxb6617202aMods
open Go.RowKit Go.Deep Go.Maps
set_option linter.unusedVariables false

/-- No master that a taken move leaves is one that a taken move enters. -/
def NoClash (n : Nat) (K : Nat → Nat) (X : Nat → Nat → Nat → Int) : Prop := ∀ i j i' j', i < n → j < K i → i' < n → j' < K i' → X i j 1 ≠ X i' j' 2

/-- What stands at place c of the moves ahead of (i, j). -/
def Seen (K : Nat → Nat) (X : Nat → Nat → Nat → Int) (c i j : Nat) (x : Int) : Prop := ∃ i' j', ((i' < i ∧ j' < K i') ∨ (i' = i ∧ j' < j)) ∧ X i' j' c = x
theorem Seen_start (K : Nat → Nat) (X : Nat → Nat → Nat → Int) (c : Nat) (x : Int) : False ↔ Seen K X c 0 0 x := by
  constructor
  · exact False.elim
  · rintro ⟨i', j', h | h, _⟩ <;> omega
theorem Seen_step (K : Nat → Nat) (X : Nat → Nat → Nat → Int) (c i j : Nat) (x : Int) : (x = X i j c ∨ Seen K X c i j x) ↔ Seen K X c i (j + 1) x := by
  constructor
  · rintro (h | ⟨i', j', h, e⟩)
    · exact ⟨i, j, .inr ⟨rfl, by omega⟩, h.symm⟩
    · exact ⟨i', j', by omega, e⟩
  · rintro ⟨i', j', h, e⟩
    by_cases h' : i' = i ∧ j' = j
    · obtain ⟨rfl, rfl⟩ := h'
      exact .inl e.symm
    · exact .inr ⟨i', j', by omega, e⟩
theorem Seen_next (K : Nat → Nat) (X : Nat → Nat → Nat → Int) (c i : Nat) (x : Int) : Seen K X c i (K i) x ↔ Seen K X c (i + 1) 0 x := by
  constructor
  · rintro ⟨i', j', h, e⟩
    refine ⟨i', j', .inl ?_, e⟩
    rcases h with h | ⟨rfl, h⟩
    · exact ⟨by omega, h.2⟩
    · exact ⟨by omega, h⟩
  · rintro ⟨i', j', h, e⟩
    refine ⟨i', j', ?_, e⟩
    rcases h with h | h
    · by_cases h' : i' = i
      · subst h'; exact .inr ⟨rfl, h.2⟩
      · exact .inl ⟨by omega, h.2⟩
    · omega
theorem NoClash_of {n : Nat} {K : Nat → Nat} {X : Nat → Nat → Nat → Int} : NoClash n K X ↔ ∀ x, Seen K X 2 n 0 x → ¬ Seen K X 1 n 0 x := by
  constructor
  · rintro h x ⟨i', j', h1, e1⟩ ⟨i, j, h2, e2⟩
    exact h i j i' j' (by omega) (by omega) (by omega) (by omega) (e2.trans e1.symm)
  · intro h i j i' j' h1 h2 h3 h4 e
    exact h (X i' j' 2) ⟨i', j', .inl ⟨h3, h4⟩, rfl⟩ ⟨i, j, .inl ⟨h1, h2⟩, e⟩

/-- What the outer loop holds at each head: q lists have given in round r; that is cnt. -/
def Dealt (n : Nat) (L : Nat → Nat) (m : Int) (r q cnt : Nat) : Prop :=
  q ≤ n ∧ cnt = sumTo n (deal L r q) ∧ (q = 0 ∨ (cnt : Int) = m) ∧ ((cnt : Int) ≤ m ∨ cnt = 0)
/-- What the inner loop holds at p: 'c0' was the count at the round's start. -/
def Dealing (n : Nat) (L : Nat → Nat) (m : Int) (r c0 p q cnt : Nat) : Prop :=
  q ≤ p ∧ p ≤ n ∧ cnt = sumTo n (deal L r q) ∧ (q = p ∨ (cnt : Int) = m) ∧ (cnt : Int) ≤ m ∧ c0 = sumTo n (deal L r 0) ∧ (c0 : Int) < m ∧ c0 ≤ cnt

theorem shv_zero (a : Option Addr) (c : Nat) : shv a c 0 = .slice none 0 0 := rfl
theorem shv_pos (a : Option Addr) (c k : Nat) (h : ¬ k = 0) : shv a c k = .slice a k c := by simp [shv, h]

theorem dealing_take {n : Nat} {L : Nat → Nat} {m : Int} {r c0 p q cnt : Nat} (h : Dealing n L m r c0 p q cnt) (hp : p < n) (ht : deal L r q p < L p) (hc : (cnt : Int) < m) :
    q = p ∧ r < L p ∧ Dealing n L m r c0 (p + 1) (p + 1) (cnt + 1) := by
  obtain ⟨h1, h2, h3, h4, h5, h6, h7, h8⟩ := h
  have hq : q = p := by omega
  subst hq
  have hr : r < L q := by
    unfold deal at ht
    simp at ht
    omega
  refine ⟨rfl, hr, Nat.le_refl _, hp, ?_, .inl rfl, by omega, h6, h7, by omega⟩
  rw [sumTo_deal_take L r q n hp hr, h3]

theorem dealing_skip {n : Nat} {L : Nat → Nat} {m : Int} {r c0 p q cnt : Nat} (h : Dealing n L m r c0 p q cnt) (hp : p < n) (ht : ¬ (deal L r q p < L p ∧ (cnt : Int) < m)) :
    ∃ q', Dealing n L m r c0 (p + 1) q' cnt ∧ ∀ i, deal L r q' i = deal L r q i := by
  obtain ⟨h1, h2, h3, h4, h5, h6, h7, h8⟩ := h
  by_cases hm : (cnt : Int) = m
  · exact ⟨q, ⟨by omega, hp, h3, .inr hm, h5, h6, h7, h8⟩, fun _ => rfl⟩
  · have hq : q = p := by omega
    subst hq
    have hr : L q ≤ r := by
      have : ¬ deal L r q q < L q := fun h' => ht ⟨h', by omega⟩
      unfold deal at this
      simp at this
      omega
    exact ⟨q + 1, ⟨Nat.le_refl _, hp, by rw [sumTo_deal_skip L r q n hr]; exact h3, .inl rfl, h5, h6, h7, h8⟩, fun i => deal_skip L r q hr i⟩

theorem dealing_end {n : Nat} {L : Nat → Nat} {m : Int} {r c0 q cnt : Nat} (h : Dealing n L m r c0 n q cnt) :
    ∃ r2 q2, Dealt n L m r2 q2 cnt ∧ (∀ i, i < n → deal L r2 q2 i = deal L r q i) ∧ (¬ c0 < cnt → ∀ i, i < n → deal L r2 q2 i = L i) := by
  obtain ⟨h1, h2, h3, h4, h5, h6, h7, h8⟩ := h
  by_cases hm : (cnt : Int) = m
  · exact ⟨r, q, ⟨h1, h3, .inr hm, .inl h5⟩, fun _ _ => rfl, fun h => by omega⟩
  · have hq : q = n := by omega
    subst hq
    have e : ∀ i, i < q → deal L (r + 1) 0 i = deal L r q i := fun i hi => (deal_start L q r hi).symm
    refine ⟨r + 1, 0, ⟨Nat.zero_le _, ?_, .inl rfl, .inl h5⟩, e, fun h i hi => ?_⟩
    · rw [h3]; exact (sumTo_congr e).symm
    · rw [e i hi]
      exact deal_done L r q (by omega) i hi

theorem row_take {W : World} {gs n : Nat} {A : Nat → Option Addr} {C L : Nat → Nat} {r p k : Nat} (h : W.rowIs gs 42 n (fun i => shv (A i) (C i) (deal L r p i))) (hr : r < L p) (hk : deal L r p p = k) {a : Addr} (ha : A p = some a) :
    (W.setCell ⟨gs, p, none⟩ (.slice (some a) (k + 1) (C p))).rowIs gs 42 n (fun i => shv (A i) (C i) (deal L r (p + 1) i)) := by
  refine (h.set p _).congr ?_
  intro i hi
  show (if i = p then _ else _) = _
  rw [deal_take L r p hr i]
  by_cases e : i = p
  · subst e
    rw [if_pos rfl, if_pos rfl, hk, ha, shv_pos _ _ _ (by omega)]
  · rw [if_neg e, if_neg e]

theorem fair_of {n : Nat} {L : Nat → Nat} {m : Int} {r q cnt : Nat} (h : Dealt n L m r q cnt) (h' : (cnt : Int) < m → ∀ i, i < n → deal L r q i = L i) : Fair n L (deal L r q) m := by
  obtain ⟨h1, h2, h3, h4⟩ := h
  refine ⟨⟨r, q, h1, fun _ _ => rfl⟩, ?_⟩
  have hle := sumTo_le (n := n) (f := deal L r q) (g := L) (fun i _ => deal_le L r q i)
  rw [← h2] at hle ⊢
  unfold clampZ
  by_cases hc : (cnt : Int) < m
  · have e := sumTo_congr (h' hc)
    rw [← h2] at e
    rw [if_neg (by omega), if_pos (by omega), e]
  · split
    · omega
    · split <;> omega

/-- What 'shareOut' leaves. -/
def SharePost (n : Nat) (A : Nat → Option Addr) (L C : Nat → Nat) (X : Nat → Nat → Nat → Int) (m : Int) (w : World) (e : Ending) (w' : World) : Prop :=
  ∃ s K, e = .returned (.tuple #[.slice (some ⟨w.heap.size, 0, none⟩) n n, .bool s]) ∧ Fair n L K m ∧ (s = true ↔ NoClash n K X) ∧ w'.rowIs w.heap.size 42 n (fun i => shv (A i) (C i) (K i)) ∧ Below w.heap.size w w'

theorem box3 {W w1 : World} {a b c : Value} {row : Nat} (hg : (W.alloc (.cells #[a, b, c] 44)).grownBy w1 (some row)) (hr : row ≠ W.heap.size) : w1.cell? ⟨W.heap.size, 2, none⟩ = some c := by
  have h := hg.block W.heap.size (by simp) (by simpa using fun h => hr h.symm)
  rw [World.cell?_of_block (w := W.alloc (.cells #[a, b, c] 44)) h]
  unfold World.cell?
  rw [heap_alloc_new]
  rfl

set_option maxHeartbeats 1000000 in
set_option maxRecDepth 100000 in
theorem share_any (g n : Nat) (A : Nat → Option Addr) (L C : Nat → Nat) (X : Nat → Nat → Nat → Int) (m : Int) (w : World) (hn : n ≤ 4096) (hm : -9223372036854775808 ≤ m ∧ m ≤ 9223372036854775807)
    (hin : ∀ i, i < n → w.cell? ⟨g, i, none⟩ = some (.slice (A i) (L i) (C i))) (hg : g < w.heap.size) (hL : ∀ i, i < n → L i ≤ 65536 ∧ L i ≤ C i ∧ C i ≤ 9223372036854775807)
    (hX : ∀ i, i < n → ∀ j, j < L i → ∃ b o, A i = some ⟨b, o, none⟩ ∧ ∀ c, c < 3 → w.cell? ⟨b, o + (j * 3 + c), none⟩ = some (.int .i64 (X i j c)))
    (hwf : ∀ i, i < n → ∀ j, j < L i → ∀ c, c < 3 → (Lit.int .i64 (X i j c)).wf = true) :
    Calls Trym.prog 20 #[.slice (some ⟨g, 0, none⟩) n n, .int .i64 m] w fun e w' => SharePost n A L C X m w e w' := by
  have hA : ∀ i, i < n → 0 < L i → ∃ b o, A i = some ⟨b, o, none⟩ := fun i hi hl => by
    obtain ⟨b, o, e, _⟩ := hX i hi 0 hl
    exact ⟨b, o, e⟩
  have hmk := run_make_row' (P := Trym.prog) 41 42 (.slice none 0 0) 24 Trym.underlying41 Trym.info42 rfl .i64 .i64 n (by omega) (by omega)
  go_enter Trym.func20, Trym.ntmps20
  go_upto_block 0 with fail
  go_cut [6] from 18 (fun _ wc => ∃ r q cnt : Nat, Hid (Dealt n L m r q cnt ∧ ((cnt : Int) < m → ∀ i, i < n → deal L r q i = L i)) ∧ Hid (wc.rowIs w.heap.size 42 n (fun i => shv (A i) (C i) (deal L r q i))) ∧ Hid (Below w.heap.size w wc))
  case first =>
    clear hmk
    go_wp2_with fail
    go_loopw [6] (fun cv wr => ∃ r q cnt : Nat, cv = .int .i64 cnt ∧ Hid (Dealt n L m r q cnt) ∧ Hid (wr.rowIs w.heap.size 42 n (fun i => shv (A i) (C i) (deal L r q i))) ∧ Hid (Below w.heap.size w wr))
      (fun cv _ => (m - intOf cv).toNat)
    case atStart =>
      refine ⟨0, 0, 0, rfl, ⟨Nat.zero_le _, ?_, .inl rfl, .inr rfl⟩, (World.rowIs_made w (.slice none 0 0) n 42).congr (fun i hi => ?_), (Below.refl _ _).alloc (Nat.le_refl _) _⟩
      · rw [sumTo_congr (g := fun _ => 0) (fun i _ => by simp [deal]), sumTo_zero]
      · simp [deal, shv]
    case round =>
      obtain ⟨r, q, cnt, rfl, HD, hrow, hbel⟩ := hrel
      by_cases hlt : (cnt : Int) < m
      · go_wp2
        go_loopw [6, 7, 26] (fun cv tv pv wi => ∃ p q' cnt' : Nat, p ≤ n ∧ pv = .int .i64 p ∧ cv = .int .i64 cnt' ∧ (cnt' : Int) ≤ m ∧ cnt ≤ cnt' ∧ tv = .bool (decide (cnt < cnt')) ∧ Hid (Dealing n L m r cnt p q' cnt') ∧
            Hid (wi.rowIs w.heap.size 42 n (fun i => shv (A i) (C i) (deal L r q' i))) ∧ Hid (Below w.heap.size w wi))
          (fun _ _ pv _ => n - (intOf pv).toNat)
        case atStart =>
          obtain ⟨h1, h2, h3, h4⟩ := HD.out
          have hq0 : q = 0 := by omega
          subst hq0
          exact ⟨0, 0, cnt, Nat.zero_le _, rfl, rfl, by omega, Nat.le_refl _, by simp, ⟨Nat.le_refl _, Nat.zero_le _, h2, .inl rfl, by omega, h2, hlt, Nat.le_refl _⟩, hrow, hbel⟩
        case round =>
          obtain ⟨p, q', cnt', hpn, rfl, rfl, hcm, hcc, rfl, HDg, hrowi, hbeli⟩ := hrel
          by_cases hp : p < n
          · have hcin : wr.cell? ⟨g, p, none⟩ = some (.slice (A p) (L p) (C p)) := (hbeli.out.cell (by exact hg)).trans (hin p hp)
            have hcs := hrowi.out.cell hp
            have hfr := hrowi.out.frozen p
            obtain ⟨hL1, hL2, hL3⟩ := hL p hp
            have hkl : deal L r q' p ≤ L p := deal_le _ _ _ _
            by_cases htake : deal L r q' p < L p ∧ (cnt' : Int) < m
            · obtain ⟨ht1, ht2⟩ := htake
              obtain ⟨bp, op, hAp⟩ := hA p hp (by omega)
              obtain ⟨hqp, hrL, hDg'⟩ := dealing_take HDg.out hp ht1 ht2
              subst hqp
              obtain ⟨k, hk⟩ : ∃ k, deal L r q' q' = k := ⟨_, rfl⟩
              have HR := row_take hrowi.out hrL hk hAp
              rw [hk, hAp] at hcs
              rw [hAp] at hcin
              rw [hk] at ht1
              have HD2 : Hid (Dealing n L m r cnt (q' + 1) (q' + 1) (cnt' + 1)) := hDg'
              have HR2 : Hid ((wr.setCell ⟨w.heap.size, q', none⟩ (.slice (some ⟨bp, op, none⟩) (k + 1) (C q'))).rowIs w.heap.size 42 n (fun i => shv (A i) (C i) (deal L r (q' + 1) i))) := HR
              have HB2 : Hid (Below w.heap.size w (wr.setCell ⟨w.heap.size, q', none⟩ (.slice (some ⟨bp, op, none⟩) (k + 1) (C q')))) := hbeli.out.setCell (Nat.le_refl _) _
              clear hkl hAp hk hDg' HR hrL HDg hrowi hbeli
              by_cases hk0 : k = 0
              · subst hk0
                rw [shv_zero] at hcs
                go_wp2
                go_roundw
                case rel => exact ⟨q' + 1, q' + 1, cnt' + 1, by omega, by go_num, by go_num, by omega, by omega, by simp; omega, HD2, HR2, HB2⟩
                case measure => simp [intOf]; omega
              · rw [shv_pos _ _ _ hk0] at hcs
                go_wp2
                go_roundw
                case rel => exact ⟨q' + 1, q' + 1, cnt' + 1, by omega, by go_num, by go_num, by omega, by omega, by simp; omega, HD2, HR2, HB2⟩
                case measure => simp [intOf]; omega
            · obtain ⟨q2, hD2, he2⟩ := dealing_skip HDg.out hp htake
              have HD2 : Hid (Dealing n L m r cnt (p + 1) q2 cnt') := hD2
              have HR2 : Hid (wr.rowIs w.heap.size 42 n (fun i => shv (A i) (C i) (deal L r q2 i))) := hrowi.out.congr (fun i _ => by rw [he2 i])
              obtain ⟨k, hk⟩ : ∃ k, deal L r q' p = k := ⟨_, rfl⟩
              rw [hk] at hcs hkl htake
              clear hD2 he2 hk HDg hrowi
              by_cases hk0 : k = 0
              · subst hk0
                rw [shv_zero] at hcs
                by_cases h3 : 0 < L p
                · have h4 : ¬ (cnt' : Int) < m := fun h => htake ⟨h3, h⟩
                  clear htake
                  go_wp2
                  go_roundw
                  case rel => exact ⟨p + 1, q2, cnt', by omega, by go_num, rfl, by omega, by omega, rfl, HD2, HR2, hbeli⟩
                  case measure => simp [intOf]; omega
                · clear htake
                  have h5 : decide ((0 : Int) < (L p : Int)) = false := decide_eq_false (by omega)
                  go_wp2
                  go_roundw
                  case rel => exact ⟨p + 1, q2, cnt', by omega, by go_num, rfl, by omega, by omega, rfl, HD2, HR2, hbeli⟩
                  case measure => simp [intOf]; omega
              · rw [shv_pos _ _ _ hk0] at hcs
                by_cases h3 : k < L p
                · have h4 : ¬ (cnt' : Int) < m := fun h => htake ⟨h3, h⟩
                  clear htake
                  go_wp2
                  go_roundw
                  case rel => exact ⟨p + 1, q2, cnt', by omega, by go_num, rfl, by omega, by omega, rfl, HD2, HR2, hbeli⟩
                  case measure => simp [intOf]; omega
                · clear htake
                  have h5 : decide ((k : Int) < (L p : Int)) = false := decide_eq_false (by omega)
                  go_wp2
                  go_roundw
                  case rel => exact ⟨p + 1, q2, cnt', by omega, by go_num, rfl, by omega, by omega, rfl, HD2, HR2, hbeli⟩
                  case measure => simp [intOf]; omega
          · have hpe : p = n := by omega
            subst hpe
            obtain ⟨r2, q2, hD2, he2, hd2⟩ := dealing_end HDg.out
            have HD2 : Hid (Dealt p L m r2 q2 cnt') := hD2
            have HR2 : Hid (wr.rowIs w.heap.size 42 p (fun i => shv (A i) (C i) (deal L r2 q2 i))) := hrowi.out.congr (fun i hi => by rw [he2 i hi])
            have HE2 : Hid (¬ cnt < cnt' → ∀ i, i < p → deal L r2 q2 i = L i) := hd2
            clear hD2 he2 hd2 HDg hrowi
            by_cases ht : cnt < cnt'
            · go_wp2
              go_roundw
              case rel => exact ⟨r2, q2, cnt', rfl, HD2, HR2, hbeli⟩
              case measure => simp [intOf]; omega
            · go_wp2
              go_meet
              case rel => exact ⟨r2, q2, cnt', ⟨HD2.out, fun _ => HE2.out ht⟩, HR2, hbeli⟩
      · go_wp2
        go_meet
        case rel => exact ⟨r, q, cnt, ⟨HD.out, fun h => absurd h (by omega)⟩, hrow, hbel⟩
  case rest =>
    obtain ⟨r, q, cnt, HDt, HR, HB⟩ := hcut
    have HF : Hid (Fair n L (deal L r q) m) := fair_of HDt.out.1 HDt.out.2
    have HKL : Hid (∀ i, i < n → deal L r q i ≤ L i) := fun i _ => deal_le _ _ _ _
    clear HDt hmk hA
    generalize deal L r q = K at HR HF HKL
    have hmm := @run_makeMap Trym.prog
    go_wp2_with fail
    go_loopw [61] (fun pv wr => ∃ i : Nat, i ≤ n ∧ pv = .int .i64 i ∧ Hid (SetIs wr wc.heap.size (i * 65536) (Seen K X 1 i 0)) ∧ Hid (SetIs wr (wc.heap.size + 1) (i * 65536) (Seen K X 2 i 0)) ∧ Hid (Below wc.heap.size wc wr))
      (fun pv _ => n - (intOf pv).toNat)
    case atStart =>
      refine ⟨0, Nat.zero_le _, rfl, ((SetIs_made wc).alloc _).congr (Seen_start K X 1), ?_, ((Below.refl _ _).alloc (Nat.le_refl _) _).alloc (by simp) _⟩
      have h := SetIs_made (wc.alloc (.map #[] 0))
      simp only [World.size_alloc] at h
      exact h.congr (Seen_start K X 2)
    case round =>
      obtain ⟨i, hi, rfl, HS1, HS2, HBc⟩ := hrel
      by_cases hlt : i < n
      · have hsh : wr.cell? ⟨w.heap.size, i, none⟩ = some (shv (A i) (C i) (K i)) := by
          have h1 := HR.out.cell hlt
          rw [HBc.out.cell (World.block_lt_of_cell? wc _ h1)]
          exact h1
        have hKi : K i ≤ 65536 := Nat.le_trans (HKL.out i hlt) (hL i hlt).1
        by_cases hk0 : K i = 0
        · rw [hk0, shv_zero] at hsh
          have HS1' : Hid (SetIs wr wc.heap.size ((i + 1) * 65536) (Seen K X 1 (i + 1) 0)) := (HS1.out.mono (by omega)).congr (fun x => by rw [← Seen_next K X 1 i, hk0])
          have HS2' : Hid (SetIs wr (wc.heap.size + 1) ((i + 1) * 65536) (Seen K X 2 (i + 1) 0)) := (HS2.out.mono (by omega)).congr (fun x => by rw [← Seen_next K X 2 i, hk0])
          go_wp2_with fail
          refine wp_loop_rounds 1 ?_
          rw [rounds_succ]
          go_wp2_with fail
          go_roundw
          case rel => exact ⟨i + 1, by omega, by go_num, HS1', HS2', HBc⟩
          case measure => simp [intOf]; omega
        · obtain ⟨b, o, hAi, hc⟩ := hX i hlt 0 (by have := HKL.out i hlt; omega)
          rw [shv_pos _ _ _ hk0, hAi] at hsh
          go_wp2_with fail
          go_loopw [67] (fun pv wi => ∃ j : Nat, j ≤ K i ∧ pv = .int .i64 j ∧ Hid (SetIs wi wc.heap.size (i * 65536 + j) (Seen K X 1 i j)) ∧ Hid (SetIs wi (wc.heap.size + 1) (i * 65536 + j) (Seen K X 2 i j)) ∧ Hid (Below wc.heap.size wc wi))
            (fun pv _ => K i - (intOf pv).toNat)
          case atStart => exact ⟨0, Nat.zero_le _, rfl, HS1.out.mono (by omega), HS2.out.mono (by omega), HBc⟩
          case round =>
            obtain ⟨j, hj, rfl, HT1, HT2, HBi⟩ := hrel
            by_cases hjl : j < K i
            · obtain ⟨b', o', hAi', hcj⟩ := hX i hlt j (by have := HKL.out i hlt; omega)
              rw [hAi] at hAi'
              obtain ⟨rfl, rfl⟩ : b = b' ∧ o = o' := by simpa using hAi'
              have hold : ∀ c, c < 3 → wr.cell? ⟨b, o + (j * 3 + c), none⟩ = some (.int .i64 (X i j c)) := fun c hc3 => by
                have h1 := hcj c hc3
                have hb1 := World.block_lt_of_cell? w _ h1
                rw [HBi.out.cell (Nat.lt_of_lt_of_le hb1 HB.out.size), HB.out.cell hb1]
                exact h1
              have c0 : wr.cell? ⟨b, o + j * 3, none⟩ = some (.int .i64 (X i j 0)) := hold 0 (by omega)
              have c1 : wr.cell? ⟨b, o + j * 3 + 1, none⟩ = some (.int .i64 (X i j 1)) := by rw [Nat.add_assoc]; exact hold 1 (by omega)
              have c2 : wr.cell? ⟨b, o + j * 3 + 2, none⟩ = some (.int .i64 (X i j 2)) := by rw [Nat.add_assoc]; exact hold 2 (by omega)
              have wf1 := hwf i hlt j (by have := HKL.out i hlt; omega) 1 (by omega)
              have wf2 := hwf i hlt j (by have := HKL.out i hlt; omega) 2 (by omega)
              have hz2 : wc.heap.size + 1 < wr.heap.size := HT2.out.lt
              clear hold hcj hAi'
              go_wp2_with (first
                | (at_mapUpdate; refine wpList_set_add _ rfl (.tmp 71) (.tmp 73) _ rfl wc.heap.size (i * 65536 + j) _ rfl (HT1.out.alloc _) (by unfold maxLen; omega) _ rfl rfl wf1 ?_; intro w1 hs1 hg1; have cb := box3 hg1 (by omega))
                | (at_mapUpdate; refine wpList_set_add _ rfl (.tmp 74) (.tmp 76) _ rfl (wc.heap.size + 1) (i * 65536 + j) _ rfl ((HT2.out.alloc _).kept hg1 (by simp)) (by unfold maxLen; omega) _ rfl rfl wf2 ?_; intro w2 hs2 hg2))
              have HU1 : Hid (SetIs w2 wc.heap.size (i * 65536 + (j + 1)) (Seen K X 1 i (j + 1))) := ((hs1.kept hg2 (by simp)).mono (by omega)).congr (Seen_step K X 1 i j)
              have HU2 : Hid (SetIs w2 (wc.heap.size + 1) (i * 65536 + (j + 1)) (Seen K X 2 i (j + 1))) := (hs2.mono (by omega)).congr (Seen_step K X 2 i j)
              have HBj : Hid (Below wc.heap.size wc w2) := by
                have h1 : Below wc.heap.size wc _ := HBi.out.alloc (by omega) (.cells #[.int .i64 (X i j 0), .int .i64 (X i j 1), .int .i64 (X i j 2)] 44)
                have h2 := h1.grown hg1 (by simp; omega) (fun k hk => by cases hk; exact Nat.le_refl _)
                exact h2.grown hg2 (by have := hg1.size; simp at this; omega) (fun k hk => by cases hk; omega)
              clear hs1 hs2 hg1 hg2 cb HT1 HT2 HBi
              go_wp2_with fail
              go_roundw
              case rel => exact ⟨j + 1, by omega, by go_num, HU1, HU2, HBj⟩
              case measure => simp [intOf]; omega
            · have hje : j = K i := by omega
              subst hje
              have HU1 : Hid (SetIs wr wc.heap.size ((i + 1) * 65536) (Seen K X 1 (i + 1) 0)) := (HT1.out.mono (by omega)).congr (Seen_next K X 1 i)
              have HU2 : Hid (SetIs wr (wc.heap.size + 1) ((i + 1) * 65536) (Seen K X 2 (i + 1) 0)) := (HT2.out.mono (by omega)).congr (Seen_next K X 2 i)
              go_wp2_with fail
              go_roundw
              case rel => exact ⟨i + 1, by omega, by go_num, HU1, HU2, HBi⟩
              case measure => simp [intOf]; omega
      · have hie : i = n := by omega
        subst hie
        have hz1 : wc.heap.size + 1 < wr.heap.size := HS2.out.lt
        go_wp2_with (at_range; refine wpList_set_range _ rfl _ rfl (wc.heap.size + 1) _ _ rfl HS2.out ?_; intro w0 cnt0 hrg0 hg0 hs0)
        go_frame
        have HF0 : Hid (SetIs w0 wc.heap.size (i * 65536) (Seen K X 1 i 0)) := HS1.out.kept hg0 (by simp)
        have HB0 : Hid (Below wc.heap.size wc w0) := HBc.out.grown hg0 (by omega) (fun k hk => by cases hk)
        have HG0 : Hid (SetRange w0 (wc.heap.size + 1) wr.heap.size (i * 65536) (Seen K X 2 i 0) (Seen K X 2 i 0) cnt0) := hrg0
        clear hrg0 hg0 HS1 HS2 HBc
        generalize hrr : wr.heap.size = rr at *
        go_loopw [4, 5, 17] (fun v4 _ _ wl => ∃ (left : Int → Prop) (cnt : Nat), v4 = .slice (some ⟨w.heap.size, 0, none⟩) i i ∧ Hid (SetRange wl (wc.heap.size + 1) rr (i * 65536) (Seen K X 2 i 0) left cnt) ∧ Hid (SetIs wl wc.heap.size (i * 65536) (Seen K X 1 i 0)) ∧ Hid (Below wc.heap.size wc wl) ∧ rr < wl.heap.size ∧
            Hid (∀ x, (Lit.int .i64 x).wf = true → Seen K X 2 i 0 x → ¬ left x → ¬ Seen K X 1 i 0 x))
          (fun _ _ _ wl => wl.rangeLeft (wc.heap.size + 1) rr)
        case atStart => exact ⟨_, cnt0, rfl, HG0, HF0, HB0, by omega, fun x _ h1 h2 => absurd h1 h2⟩
        case round =>
          obtain ⟨left, cnt, rfl, HG, HFr, HBl, hrw, HInv⟩ := hrel
          go_wp2_with (at_next; refine wpList_set_next _ rfl _ rfl (wc.heap.size + 1) rr _ _ _ _ rfl HG.out ?_ ?_)
          · intro hnone
            have HC : Hid (NoClash i K X) := by
              refine NoClash_of.2 fun x h2 => ?_
              have hx : (Lit.int .i64 x).wf = true := by
                obtain ⟨i', j', h, e⟩ := h2
                rw [← e]
                have h' : i' < i ∧ j' < K i' := by omega
                exact hwf i' h'.1 j' (Nat.lt_of_lt_of_le h'.2 (HKL.out i' h'.1)) 2 (by omega)
              exact HInv.out x hx h2 (hnone x hx)
            clear hnone HInv
            go_wp2_with fail
            go_ret2
            exact ⟨true, K, rfl, HF.out, by simpa using HC.out, HR.out.of_block (HBl.out.block _ (HR.out.lt)), HB.out.trans (HBl.out.mono HB.out.size)⟩
          · intro x c w1 cnt1 hwx hlx hSx hrg1 hlt1 hg1 hs1 hen
            have hne1 : wc.heap.size ≠ rr := by omega
            have HF1 : Hid (SetIs w1 wc.heap.size (i * 65536) (Seen K X 1 i 0)) := HFr.out.kept hg1 (by simpa using hne1)
            have HB1 : Hid (Below wc.heap.size wc w1) := HBl.out.grown hg1 (by omega) (fun k hk => by cases hk; omega)
            have HG1 : Hid (SetRange w1 (wc.heap.size + 1) rr (i * 65536) (Seen K X 2 i 0) (fun y => left y ∧ y ≠ x) cnt1) := hrg1
            have HS1 : Hid (w1.heap.size = wr.heap.size) := hs1
            have HL1 : Hid (cnt1 < cnt) := hlt1
            have HSX : Hid (Seen K X 2 i 0 x) := hSx
            have HWX : Hid ((Lit.int .i64 x).wf = true) := hwx
            clear hrg1 hg1 hs1 HFr HBl hlt1 hSx hlx hwx
            go_wp2_with (at_lookup; refine wpList_set_look _ rfl _ _ rfl wc.heap.size _ _ rfl HF1.out _ rfl HWX.out ?_; intro cl hcl; have HCL : Hid (cl = true ↔ Seen K X 1 i 0 x) := hcl; clear hcl; cases cl)
            · go_roundw
              case rel =>
                (repeat apply Exists.intro)
                refine ⟨⟨_, cnt1, rfl, HG1, HF1, HB1, by have := HS1.out; omega, fun y hy h1 h2 => ?_⟩, rfl⟩
                by_cases e : y = x
                · subst e
                  intro h3
                  have := HCL.out.2 h3
                  cases this
                · exact HInv.out y hy h1 (fun h3 => h2 ⟨h3, e⟩)
              case measure => rw [HG1.out.left_eq, HG.out.left_eq]; exact HL1.out
            · go_ret2
              refine ⟨false, K, rfl, HF.out, ?_, HR.out.of_block (HB1.out.block _ (HR.out.lt)), HB.out.trans (HB1.out.mono HB.out.size)⟩
              constructor
              · intro h; cases h
              · intro h
                exact absurd (HCL.out.1 (by first | trivial | rfl)) (NoClash_of.1 h x HSX.out)
end Go.Proofs.Qxb6617202aMods
