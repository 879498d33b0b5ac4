/- 'zzLevelSum', 'zzWaterSizes': the walks. -/
import Derived.Test.Qxb6617202aModsAid
namespace Go.Proofs.Qxb6617202aMods
open Go.RowKit Go.Deep
set_option linter.unusedVariables false

theorem Trym.info3w : (Trym.prog.info? 3).map (fun i => (i.zero, i.size, i.bytes)) = some (some (.int .i64 0), 1, 8) := by kernel_rfl
theorem ret_w {k : IntKind} {a b : Int} (h : a = b) : Ending.returned (.int k a) = .returned (.int k b) := by rw [h]

theorem sumTo_bw {L : Nat → Nat} {b : Nat} : ∀ {n : Nat}, (∀ i, i < n → L i ≤ b) → sumTo n L ≤ n * b
  | 0, _ => by simp [sumTo]
  | n + 1, h => by
    have h1 := sumTo_bw (n := n) (fun i hi => h i (by omega))
    have h2 := h n (by omega)
    simp only [sumTo, Nat.succ_mul]
    omega

set_option maxHeartbeats 400000 in
set_option maxRecDepth 100000 in
theorem level21 (a : Option Addr) (n cap : Nat) (A : Nat → Option Addr) (L C : Nat → Nat) (X : Nat → Nat → Nat → Int) (t : Nat) (w : World) (hn : n ≤ 4096) (hrd : Rd w a n A L C X) (hL : ∀ i, i < n → L i ≤ 65536) (ht : t ≤ 65536) :
    Calls Trym.prog 21 #[.slice a n cap, .int .i64 t] w fun e w' => e = .returned (.int .i64 (sumTo n (deal L t 0))) ∧ w = w' := by
  have HRD : Hid (Rd w a n A L C X) := hrd
  clear hrd
  go_enter Trym.func21, Trym.ntmps21
  go_wp2
  go_loop [5, 6] (fun z p => ∃ i y : Nat, i ≤ n ∧ p = .int .i64 i ∧ z = .int .i64 y ∧ y ≤ i * 65536 ∧ Hid (y = sumTo i (deal L t 0))) (fun _ p => n - (intOf p).toNat)
  case atStart => exact ⟨0, 0, Nat.zero_le _, rfl, rfl, Nat.zero_le _, rfl⟩
  case round =>
    obtain ⟨i, y, hi, rfl, rfl, hy, HY⟩ := hrel
    by_cases hlt : i < n
    · obtain ⟨b, off, rfl, hc⟩ := HRD.out.outer i hlt
      have hLi := hL i hlt
      by_cases h1 : t < L i
      · have HY2 : Hid (y + t = sumTo (i + 1) (deal L t 0)) := by
          show y + t = sumTo i (deal L t 0) + deal L t 0 i
          rw [← HY.out]
          simp [deal]; omega
        go_wp2
        go_round
        case rel => exact ⟨i + 1, y + t, by omega, by go_num, by go_num, by omega, HY2⟩
        case measure => simp [intOf]; omega
      · have HY2 : Hid (y + L i = sumTo (i + 1) (deal L t 0)) := by
          show y + L i = sumTo i (deal L t 0) + deal L t 0 i
          rw [← HY.out]
          simp [deal]; omega
        go_wp2
        go_round
        case rel => exact ⟨i + 1, y + L i, by omega, by go_num, by go_num, by omega, HY2⟩
        case measure => simp [intOf]; omega
    · have hie : i = n := by omega
      subst hie
      go_wp2
      go_ret
      exact ⟨ret_w (by rw [HY.out]), rfl⟩

/-- Dealing out at level t: the first p lists have been looked at, q of them before the rest ran out. -/
def Pour (n : Nat) (L : Nat → Nat) (m : Int) (t p q : Nat) (rest : Int) : Prop :=
  q ≤ p ∧ p ≤ n ∧ 0 ≤ rest ∧ m - rest = (sumTo n (deal L t q) : Int) ∧ (q = p ∨ rest = 0)

theorem pour_take {n : Nat} {L : Nat → Nat} {m : Int} {t p q : Nat} {rest : Int} (h : Pour n L m t p q rest) (hp : p < n) (ht : t < L p) (hr : 0 < rest) : q = p ∧ Pour n L m t (p + 1) (p + 1) (rest - 1) := by
  obtain ⟨h1, h2, h3, h4, h5⟩ := h
  have hq : q = p := by omega
  subst hq
  have e := sumTo_deal_take L t q n hp ht
  exact ⟨rfl, Nat.le_refl _, hp, by omega, by rw [e]; omega, .inl rfl⟩
theorem pour_full {n : Nat} {L : Nat → Nat} {m : Int} {t p q : Nat} {rest : Int} (h : Pour n L m t p q rest) (hp : p < n) (hr : ¬ 0 < rest) : Pour n L m t (p + 1) q rest := by
  obtain ⟨h1, h2, h3, h4, h5⟩ := h
  exact ⟨by omega, hp, h3, h4, .inr (by omega)⟩
theorem pour_skip {n : Nat} {L : Nat → Nat} {m : Int} {t p q : Nat} {rest : Int} (h : Pour n L m t p q rest) (hp : p < n) (ht : L p ≤ t) : ∃ q', Pour n L m t (p + 1) q' rest ∧ ∀ i, deal L t q' i = deal L t q i := by
  obtain ⟨h1, h2, h3, h4, h5⟩ := h
  by_cases hr : rest = 0
  · exact ⟨q, ⟨by omega, hp, h3, h4, .inr hr⟩, fun _ => rfl⟩
  · have hq : q = p := by omega
    subst hq
    exact ⟨q + 1, ⟨Nat.le_refl _, hp, h3, by rw [sumTo_deal_skip L t q n ht]; exact h4, .inl rfl⟩, fun i => deal_skip L t q ht i⟩

/-- What was poured out is fair. -/
theorem pour_fair {n : Nat} {L : Nat → Nat} {m : Int} {t q longest : Nat} {rest : Int} (h : Pour n L m t n q rest) (hm : 0 < m) (hlong : ∀ i, i < n → L i ≤ longest) (hmax : t = longest ∨ m < (sumTo n (deal L (t + 1) 0) : Int)) : Fair n L (deal L t q) m := by
  obtain ⟨h1, h2, h3, h4, h5⟩ := h
  refine ⟨⟨t, q, h1, fun _ _ => rfl⟩, ?_⟩
  have hle := sumTo_le (n := n) (f := deal L t q) (g := L) (fun i _ => deal_le L t q i)
  unfold clampZ
  rw [if_neg (by omega)]
  by_cases hr : rest = 0
  · subst hr
    rw [if_neg (by omega)]; omega
  · have hq : q = n := by omega
    subst hq
    have e : sumTo q (deal L t q) = sumTo q (deal L (t + 1) 0) := sumTo_congr fun i hi => deal_start L q t hi
    rcases hmax with rfl | hmax
    · have e2 : sumTo q (deal L t q) = sumTo q L := sumTo_congr fun i hi => by
        have := hlong i hi
        unfold deal
        simp [hi]; omega
      rw [if_pos (by omega)]; omega
    · omega

theorem deal_same (L : Nat → Nat) (t : Nat) {q q' i : Nat} (h : i < q) (h' : i < q') : deal L t q i = deal L t q' i := by
  unfold deal; rw [if_pos h, if_pos h']

/-- What 'zzWaterSizes' leaves. -/
def WaterPost (n : Nat) (L : Nat → Nat) (m : Int) (w : World) (e : Ending) (w' : World) : Prop :=
  ∃ K : Nat → Nat, e = .returned (.slice (some ⟨w.heap.size, 0, none⟩) n n) ∧ Fair n L K m ∧ w'.rowIs w.heap.size 3 n (fun i => .int .i64 (K i)) ∧ Below w.heap.size w w'

theorem fair_none (n : Nat) (L : Nat → Nat) (m : Int) (h : m ≤ 0) : Fair n L (fun _ => 0) m := by
  refine ⟨⟨0, 0, Nat.zero_le _, fun i _ => by simp [deal]⟩, ?_⟩
  rw [sumTo_zero]
  unfold clampZ
  split
  · rfl
  · split <;> omega

set_option maxHeartbeats 1000000 in
set_option maxRecDepth 100000 in
theorem water10 (a : Option Addr) (n cap : Nat) (A : Nat → Option Addr) (L C : Nat → Nat) (X : Nat → Nat → Nat → Int) (m : Int) (w : World) (hn : n ≤ 4096) (hm : -9223372036854775808 ≤ m ∧ m ≤ 9223372036854775807) (hrd : Rd w a n A L C X) (hL : ∀ i, i < n → L i ≤ 65536) :
    Calls Trym.prog 10 #[.slice a n cap, .int .i64 m] w fun e w' => WaterPost n L m w e w' := by
  have hmk := run_make_row' (P := Trym.prog) 27 3 (.int .i64 0) 8 Trym.underlying27 Trym.info3w rfl .i64 .i64 n (by omega) (by omega)
  have HRW : Hid (Rd (w.alloc (.cells (madeCells #[.int .i64 0] n) 3)) a n A L C X) := hrd.below ((Below.refl _ _).alloc (Nat.le_refl _) _)
  have HROW : Hid ((w.alloc (.cells (madeCells #[.int .i64 0] n) 3)).rowIs w.heap.size 3 n (fun _ => .int .i64 0)) := World.rowIs_made w (.int .i64 0) n 3
  have HBW : Hid (Below w.heap.size w (w.alloc (.cells (madeCells #[.int .i64 0] n) 3))) := (Below.refl _ _).alloc (Nat.le_refl _) _
  have HRD0 : Hid (Rd w a n A L C X) := hrd
  clear hrd
  by_cases hm0 : m ≤ 0
  · have HF := fair_none n L m hm0
    have HFH : Hid (Fair n L (fun _ => 0) m) := HF
    clear HF
    go_enter Trym.func10, Trym.ntmps10
    go_wp2_with fail
    go_ret
    exact ⟨fun _ => 0, rfl, HFH.out, HROW.out.congr (fun i _ => rfl), HBW.out⟩
  · go_enter Trym.func10, Trym.ntmps10
    go_wp2_with fail
    clear hmk
    generalize w.alloc (.cells (madeCells #[.int .i64 0] n) 3) = w1 at *
    go_loop [6, 7] (fun v p => ∃ i y : Nat, i ≤ n ∧ p = .int .i64 i ∧ v = .int .i64 y ∧ y ≤ 65536 ∧ Hid (∀ i', i' < i → L i' ≤ y)) (fun _ p => n - (intOf p).toNat)
    case atStart => exact ⟨0, 0, Nat.zero_le _, rfl, rfl, Nat.zero_le _, fun i' h => absurd h (Nat.not_lt_zero _)⟩
    case round =>
      obtain ⟨i, y, hi, rfl, rfl, hy, HY⟩ := hrel
      by_cases hlt : i < n
      · obtain ⟨b, off, rfl, hc⟩ := HRW.out.outer i hlt
        have hLi := hL i hlt
        by_cases h1 : y < L i
        · go_wp2_with fail
          go_round
          case rel =>
            refine ⟨i + 1, L i, by omega, by go_num, rfl, hLi, fun i' hi' => ?_⟩
            by_cases e : i' = i
            · subst e; exact Nat.le_refl _
            · have := HY.out i' (by omega); omega
          case measure => simp [intOf]; omega
        · go_wp2_with fail
          go_round
          case rel =>
            refine ⟨i + 1, y, by omega, by go_num, rfl, hy, fun i' hi' => ?_⟩
            by_cases e : i' = i
            · subst e; omega
            · exact HY.out i' (by omega)
          case measure => simp [intOf]; omega
      · have hie : i = n := by omega
        subst hie
        have H21 : Hid (∀ t : Nat, t ≤ 65536 → Calls Trym.prog 21 #[.slice a i cap, .int .i64 t] w1 fun e w' => e = .returned (.int .i64 (sumTo i (deal L t 0))) ∧ w1 = w') := fun t ht => level21 a i cap A L C X t w1 hn HRW.out hL ht
        have HSB : Hid (∀ t : Nat, sumTo i (deal L t 0) ≤ i * 65536) := fun t => sumTo_bw fun i' hi' => Nat.le_trans (deal_le _ _ _ _) (hL i' hi')
        have HS0 : Hid (sumTo i (deal L 0 0) = 0) := by
          show sumTo i (deal L 0 0) = 0
          rw [sumTo_congr (g := fun _ => 0) (fun i _ => by simp [deal]), sumTo_zero]
        go_wp2_with fail
        go_loop [8, 9, 10] (fun lv hv _ => ∃ lo hi : Nat, lo ≤ hi ∧ hi ≤ y ∧ lv = .int .i64 lo ∧ hv = .int .i64 hi ∧ Hid ((sumTo i (deal L lo 0) : Int) ≤ m) ∧ Hid (hi = y ∨ m < (sumTo i (deal L (hi + 1) 0) : Int))) (fun lv hv _ => (intOf hv - intOf lv).toNat)
        case atStart => exact ⟨0, y, Nat.zero_le _, Nat.le_refl _, rfl, rfl, by show (_ : Int) ≤ m; rw [HS0.out]; omega, .inl rfl⟩
        case round =>
          obtain ⟨lo, hi', hlh, hhy, rfl, rfl, HLo, HHi⟩ := hrel
          by_cases hb : lo < hi'
          · obtain ⟨mid, hmid⟩ : ∃ mid, mid = lo + (hi' - lo + 1) / 2 := ⟨_, rfl⟩
            have h1 : lo < mid := by omega
            have h2 : mid ≤ hi' := by omega
            have em : (lo : Int) + ((hi' : Int) - (lo : Int) + 1) / 2 = (mid : Int) := by omega
            have H21m : Hid (Calls Trym.prog 21 #[.slice a i cap, .int .i64 (mid : Int)] w1 fun e w' => e = .returned (.int .i64 (sumTo i (deal L mid 0))) ∧ w1 = w') := H21.out mid (by omega)
            have hsb := HSB.out mid
            have HEM : Hid ((lo : Int) + ((hi' : Int) - (lo : Int) + 1) / 2 = (mid : Int)) := em
            clear hmid em
            go_wp2_with fail
            rw [HEM.out]
            refine H21m.out.mono ?_
            rintro e w' ⟨rfl, rfl⟩
            generalize hsm : sumTo i (deal L mid 0) = sm at *
            have HSM : Hid (sumTo i (deal L mid 0) = sm) := hsm
            clear hsm HEM
            by_cases hle : (sm : Int) ≤ m
            · go_wp2_with fail
              go_round
              case rel => exact ⟨mid, hi', h2, hhy, rfl, rfl, by show (_ : Int) ≤ m; rw [HSM.out]; exact hle, HHi⟩
              case measure => simp [intOf]; omega
            · go_wp2_with fail
              go_round
              case rel => exact ⟨lo, mid - 1, by omega, by omega, rfl, by go_num, HLo, .inr (by rw [show mid - 1 + 1 = mid by omega, HSM.out]; omega)⟩
              case measure => simp [intOf]; omega
          · have hle : hi' = lo := by omega
            subst hle
            have H21m : Hid (Calls Trym.prog 21 #[.slice a i cap, .int .i64 (hi' : Int)] w1 fun e w' => e = .returned (.int .i64 (sumTo i (deal L hi' 0))) ∧ w1 = w') := H21.out hi' (by omega)
            have hsb := HSB.out hi'
            have hlo := HLo.out
            generalize hsm : sumTo i (deal L hi' 0) = sm at *
            have HSM : Hid (sumTo i (deal L hi' 0) = sm) := hsm
            have HP0 : Hid (Pour i L m hi' 0 0 (m - sm)) := ⟨Nat.le_refl _, Nat.zero_le _, by omega, by rw [hsm]; omega, .inl rfl⟩
            have HMax : Hid (hi' = y ∨ m < (sumTo i (deal L (hi' + 1) 0) : Int)) := HHi
            clear hsm HLo HHi H21 HSB HS0
            go_wp2_with fail
            refine H21m.out.mono ?_
            rintro e w' ⟨rfl, rfl⟩
            go_wp2_with fail
            go_loopw [11, 12, 13] (fun rv pv _ wr => ∃ (p q : Nat) (rest : Int), p ≤ i ∧ rest ≤ m ∧ 0 ≤ rest ∧ rv = .int .i64 rest ∧ pv = .int .i64 p ∧ Hid (Pour i L m hi' p q rest) ∧ Hid (wr.rowIs w.heap.size 3 i (fun i' => if i' < p then .int .i64 (deal L hi' q i') else .int .i64 0)) ∧ Hid (Below w.heap.size w wr)) (fun _ pv _ _ => i - (intOf pv).toNat)
            case atStart => exact ⟨0, 0, m - sm, Nat.zero_le _, by omega, by omega, rfl, rfl, HP0, HROW.out.congr (fun i' _ => by simp), HBW⟩
            case round =>
              obtain ⟨p, q, rest, hp, hrm, hr0, rfl, rfl, HP, HR, HB⟩ := hrel
              by_cases hpl : p < i
              · obtain ⟨b, off, rfl, hc⟩ := (HRD0.out.below HB.out).outer p hpl
                have hLp := hL p hpl
                have hcell := HR.out.cell hpl
                rw [if_neg (by omega)] at hcell
                have hfro := HR.out.frozen p
                by_cases h1 : hi' < L p
                · by_cases h2 : 0 < rest
                  · obtain ⟨hqp, hP2⟩ := pour_take HP.out hpl h1 h2
                    subst hqp
                    have HP2 : Hid (Pour i L m hi' (q + 1) (q + 1) (rest - 1)) := hP2
                    have HR2 : Hid ((wr.setCell ⟨w.heap.size, q, none⟩ (.int .i64 ((hi' : Int) + 1))).rowIs w.heap.size 3 i (fun i' => if i' < q + 1 then .int .i64 (deal L hi' (q + 1) i') else .int .i64 0)) := by
                      refine (HR.out.set q _).congr fun i' hi2 => ?_
                      by_cases e : i' = q
                      · subst e
                        have : deal L hi' (i' + 1) i' = hi' + 1 := by unfold deal; simp; omega
                        simp [this]
                      · rw [if_neg e]
                        by_cases e2 : i' < q
                        · rw [if_pos e2, if_pos (by omega), deal_same L hi' e2 (show i' < q + 1 by omega)]
                        · rw [if_neg e2, if_neg (by omega)]
                    have HB2 : Hid (Below w.heap.size w (wr.setCell ⟨w.heap.size, q, none⟩ (.int .i64 ((hi' : Int) + 1)))) := HB.out.setCell (Nat.le_refl _) _
                    clear hP2 HP HR HB
                    go_wp2_with fail
                    go_roundw
                    case rel => exact ⟨q + 1, q + 1, rest - 1, by omega, by omega, by omega, rfl, by go_num, HP2, HR2, HB2⟩
                    case measure => simp [intOf]; omega
                  · have HP2 : Hid (Pour i L m hi' (p + 1) q rest) := pour_full HP.out hpl h2
                    have hqp : q ≤ p := HP.out.1
                    have HR2 : Hid ((wr.setCell ⟨w.heap.size, p, none⟩ (.int .i64 (hi' : Int))).rowIs w.heap.size 3 i (fun i' => if i' < p + 1 then .int .i64 (deal L hi' q i') else .int .i64 0)) := by
                      refine (HR.out.set p _).congr fun i' hi2 => ?_
                      by_cases e : i' = p
                      · subst e
                        have : deal L hi' q i' = hi' := by
                          unfold deal
                          rw [if_neg (by omega)]; omega
                        simp [this]
                      · rw [if_neg e]
                        by_cases e2 : i' < p
                        · rw [if_pos e2, if_pos (by omega)]
                        · rw [if_neg e2, if_neg (by omega)]
                    have HB2 : Hid (Below w.heap.size w (wr.setCell ⟨w.heap.size, p, none⟩ (.int .i64 (hi' : Int)))) := HB.out.setCell (Nat.le_refl _) _
                    clear HP HR HB
                    go_wp2_with fail
                    go_roundw
                    case rel => exact ⟨p + 1, q, rest, by omega, by omega, by omega, rfl, by go_num, HP2, HR2, HB2⟩
                    case measure => simp [intOf]; omega
                · obtain ⟨q', hP2, hd⟩ := pour_skip HP.out hpl (by omega)
                  have HP2 : Hid (Pour i L m hi' (p + 1) q' rest) := hP2
                  have HR2 : Hid ((wr.setCell ⟨w.heap.size, p, none⟩ (.int .i64 (L p : Int))).rowIs w.heap.size 3 i (fun i' => if i' < p + 1 then .int .i64 (deal L hi' q' i') else .int .i64 0)) := by
                    refine (HR.out.set p _).congr fun i' hi2 => ?_
                    by_cases e : i' = p
                    · subst e
                      have : deal L hi' q' i' = L i' := by
                        unfold deal
                        split <;> omega
                      simp [this]
                    · rw [if_neg e]
                      by_cases e2 : i' < p
                      · rw [if_pos e2, if_pos (by omega), hd i']
                      · rw [if_neg e2, if_neg (by omega)]
                  have HB2 : Hid (Below w.heap.size w (wr.setCell ⟨w.heap.size, p, none⟩ (.int .i64 (L p : Int)))) := HB.out.setCell (Nat.le_refl _) _
                  clear HP HR HB hP2 hd
                  go_wp2_with fail
                  go_roundw
                  case rel => exact ⟨p + 1, q', rest, by omega, by omega, by omega, rfl, by go_num, HP2, HR2, HB2⟩
                  case measure => simp [intOf]; omega
              · have hpe : p = i := by omega
                subst hpe
                have HF : Hid (Fair p L (deal L hi' q) m) := pour_fair HP.out (by omega) HY.out HMax.out
                go_wp2_with fail
                go_ret
                exact ⟨deal L hi' q, rfl, HF.out, HR.out.congr (fun i' hi2 => by rw [if_pos hi2]), HB.out⟩
end Go.Proofs.Qxb6617202aMods
