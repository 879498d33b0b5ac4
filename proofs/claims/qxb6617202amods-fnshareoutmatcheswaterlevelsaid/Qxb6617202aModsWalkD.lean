/- 'FnShareOutGrowsByOneFairlyAndSettles': the walk. -/
import Derived.Test.Qxb6617202aModsWalkB
import Derived.Test.Qxb6617202aModsWalkC
import Derived.Laws.StructEq
namespace Go.Proofs.Qxb6617202aMods
open Go.RowKit Go.Deep Go.Maps
set_option linter.unusedVariables false

theorem Built.congr {w : World} {gb te ti n : Nat} {K K' : Nat → Nat} {X : Nat → Nat → Nat → Int} {G : Nat → Nat} (h : Built w gb te ti n n K X G) (e : ∀ i, i < n → K i = K' i) : Built w gb te ti n n K' X G :=
  ⟨h.row.congr (fun i hi => by rw [e i hi]), fun i hi => by rw [← e i hi]; exact h.inner i hi⟩

theorem Built.cells3 {w : World} {gb te ti n : Nat} {K : Nat → Nat} {X : Nat → Nat → Nat → Int} {G : Nat → Nat} (h : Built w gb te ti n n K X G) {i j : Nat} (hi : i < n) (hj : j < K i) :
    w.cell? ⟨G i, j * 3, none⟩ = some (.int .i64 (X i j 0)) ∧ w.cell? ⟨G i, j * 3 + 1, none⟩ = some (.int .i64 (X i j 1)) ∧ w.cell? ⟨G i, j * 3 + 2, none⟩ = some (.int .i64 (X i j 2)) := by
  have h1 := (h.inner i hi).1
  refine ⟨?_, ?_, ?_⟩
  · rw [h1.cell (i := j * 3) (by omega), show j * 3 / 3 = j by omega, show j * 3 % 3 = 0 by omega]
  · rw [h1.cell (i := j * 3 + 1) (by omega), show (j * 3 + 1) / 3 = j by omega, show (j * 3 + 1) % 3 = 1 by omega]
  · rw [h1.cell (i := j * 3 + 2) (by omega), show (j * 3 + 2) / 3 = j by omega, show (j * 3 + 2) % 3 = 2 by omega]

/-- '==' on two arrays of three ints that are one. -/
theorem eq30 (a b c : Int) (w : World) : (Op.equalIn 10000 30 (.agg #[.int .i64 a, .int .i64 b, .int .i64 c]) (.agg #[.int .i64 a, .int .i64 b, .int .i64 c])).run Trym.prog w = .ok true w := by
  have u3 := Trym.underlying3
  have a3 := Trym.isAgg3
  have z3 := Trym.sizeOf3
  rw [show (10000 : Nat) = 9999 + 1 from rfl, Op.equalIn]
  simp only [Sem.run_bind, run_underlying Trym.underlying30, Result.andThen_ok]
  simp only [Std.Legacy.Range.forIn_eq_forIn_range', Std.Legacy.Range.size, Nat.sub_zero, Nat.add_sub_cancel, Nat.div_one, List.range'_succ, List.range'_zero, List.forIn_cons, List.forIn_nil]
  go_simp

theorem sumTo_bd {L : Nat → Nat} {b : Nat} : ∀ {n : Nat}, (∀ i, i < n → L i ≤ b) → sumTo n L ≤ n * b
  | 0, _ => by simp [sumTo]
  | n + 1, h => by
    have h1 := sumTo_bd (n := n) (fun i hi => h i (by omega))
    have h2 := h n (by omega)
    simp only [sumTo, Nat.succ_mul]
    omega

set_option maxHeartbeats 1000000 in
set_option maxRecDepth 100000 in
theorem grows_in (a : Option Addr) (n cap : Nat) (A : Nat → Option Addr) (L C : Nat → Nat) (X : Nat → Nat → Nat → Int) (m : Int) (w : World) (hn : n ≤ 9223372036854775807) (hm : -9223372036854775808 ≤ m ∧ m ≤ 9223372036854775807)
    (hrd : Rd w a n A L C X) (hL : ∀ i, i < n → L i ≤ 9223372036854775807) (hwf : ∀ i, i < n → ∀ j, j < L i → ∀ c, c < 3 → (Lit.int .i64 (X i j c)).wf = true) :
    Calls Trym.prog 6 #[.slice a n cap, .int .i64 m] w fun e w' => e = .returned (.bool true) ∧ Below w.heap.size w w' := by
  have H18 : Hid (Calls Trym.prog 18 #[.slice a n cap, .int .i64 m] w fun e w' => SaysBool True e ∧ w = w') := bytes18 a n cap A L C X m w hn hrd hL
  have H8 : Hid (Calls Trym.prog 8 #[.slice a n cap] w fun e w' => SaysBool (FitsP n L) e ∧ w = w') := fits8 a n cap A L C X w hn hrd hL
  have HRD : Hid (Rd w a n A L C X) := hrd
  clear hrd hL
  go_enter Trym.func6, Trym.ntmps6
  go_wp2_with fail
  refine H18.out.mono ?_
  rintro e w' ⟨⟨r, rfl, _⟩, rfl⟩
  cases r with
  | false =>
    go_wp2_with fail
    go_ret
    exact ⟨rfl, Below.refl _ _⟩
  | true =>
    go_wp2_with fail
    refine H8.out.mono ?_
    rintro e w' ⟨⟨r, rfl, hfit⟩, rfl⟩
    cases r with
    | false =>
      go_wp2_with fail
      go_ret
      exact ⟨rfl, Below.refl _ _⟩
    | true =>
      obtain ⟨hn1, hL1⟩ := hfit rfl
      clear hfit H8 H18
      by_cases hmx : m = 9223372036854775807
      · have e1 : (m == 9223372036854775807) = true := by simpa using hmx
        clear hmx
        go_wp2_with fail
        go_ret
        exact ⟨rfl, Below.refl _ _⟩
      · have e1 : (m == 9223372036854775807) = false := by simpa using hmx
        have hm1 : m + 1 ≤ 9223372036854775807 := by omega
        clear hmx
        go_wp2_with fail
        refine (zz_any a n cap A L C X m w hn1 hm HRD.out hL1 hwf).mono ?_
        rintro e w1 ⟨sa, K, ga, Ga, rfl, hfa, hsa, hba, hb1⟩
        have HFA : Hid (Fair n L K m) := hfa
        have HSA : Hid (sa = true ↔ NoClash n K X) := hsa
        have HBA : Hid (Built w1 ga 29 30 n n K X Ga) := hba
        have HB1 : Hid (Below w.heap.size w w1) := hb1
        have HR1 : Hid (Rd w1 a n A L C X) := HRD.out.below hb1
        clear hfa hsa hba hb1
        go_wp2_with fail
        refine (zz_any a n cap A L C X (m + 1) w1 hn1 (by omega) HR1.out hL1 hwf).mono ?_
        rintro e w2 ⟨sb, K2, gb, Gb, rfl, hfb, hsb, hbb, hb2⟩
        have HFB : Hid (Fair n L K2 (m + 1)) := hfb
        have HSB : Hid (sb = true ↔ NoClash n K2 X) := hsb
        have HBB : Hid (Built w2 gb 29 30 n n K2 X Gb) := hbb
        have HB2 : Hid (Below w.heap.size w w2) := HB1.out.trans (hb2.mono HB1.out.size)
        have HR2 : Hid (Rd w2 a n A L C X) := HR1.out.below hb2
        have HBA2 : Hid (Built w2 ga 29 30 n n K X Ga) := HBA.out.below hb2
        clear hfb hsb hbb hb2 HR1 HBA HB1
        have HK1 : Hid (∀ i, i < n → K i ≤ L i) := HFA.out.le
        go_wp2_with fail
        refine (zz_any (some ⟨ga, 0, none⟩) n n _ K K X m w2 hn1 hm HBA2.out.rd (fun i hi => Nat.le_trans (HK1.out i hi) (hL1 i hi)) (fun i hi j hj => hwf i hi j (Nat.lt_of_lt_of_le hj (HK1.out i hi)))).mono ?_
        rintro e w3 ⟨sc, K3, gc, Gc, rfl, hfc, hsc, hbc, hb3⟩
        have HK3 := HFA.out.again hfc
        have HBC : Hid (Built w3 gc 29 30 n n K X Gc) := hbc.congr HK3
        have HSC : Hid (sc = true ↔ NoClash n K X) := by
          refine hsc.trans ?_
          constructor
          · intro h i j i' j' h1 h2 h3 h4
            exact h i j i' j' h1 (by rw [HK3 i h1]; exact h2) h3 (by rw [HK3 i' h3]; exact h4)
          · intro h i j i' j' h1 h2 h3 h4
            exact h i j i' j' h1 (by rw [← HK3 i h1]; exact h2) h3 (by rw [← HK3 i' h3]; exact h4)
        have HB3 : Hid (Below w.heap.size w w3) := HB2.out.trans (hb3.mono HB2.out.size)
        have HR3 : Hid (Rd w3 a n A L C X) := HR2.out.below hb3
        have HBA3 : Hid (Built w3 ga 29 30 n n K X Ga) := HBA2.out.below hb3
        have HBB3 : Hid (Built w3 gb 29 30 n n K2 X Gb) := HBB.out.below hb3
        clear hfc hsc hbc hb3 HR2 HBA2 HBB HB2 HK3 HRD
        go_wp2_with fail
        have HK2 : Hid (∀ i, i < n → K2 i ≤ L i) := HFB.out.le
        have HK12 : Hid (∀ i, i < n → K i ≤ K2 i) := HFA.out.mono (by omega) HFB.out
        go_loopw [12, 13, 14, 15] (fun v1 v2 v3 pv wr => ∃ (i s1 s2 s3 mm : Nat), i ≤ n ∧ pv = .int .i64 i ∧ v1 = .int .i64 s1 ∧ v2 = .int .i64 s2 ∧ v3 = .int .i64 s3 ∧ s1 ≤ i * 65536 ∧ s2 ≤ i * 65536 ∧ s3 ≤ i * 65536 ∧ Hid (s1 = sumTo i L ∧ s2 = sumTo i K ∧ s3 = sumTo i K2) ∧ wr = w3.drewN mm)
          (fun _ _ _ pv _ => n - (intOf pv).toNat)
        case atStart => exact ⟨0, 0, 0, 0, 0, Nat.zero_le _, rfl, rfl, rfl, rfl, Nat.zero_le _, Nat.zero_le _, Nat.zero_le _, ⟨rfl, rfl, rfl⟩, rfl⟩
        case round =>
          obtain ⟨i, s1, s2, s3, mm, hi, rfl, rfl, rfl, rfl, hs1, hs2, hs3, HSum, rfl⟩ := hrel
          by_cases hlt : i < n
          · obtain ⟨b, off, rfl, hcp⟩ := HR3.out.outer i hlt
            have hca : w3.cell? ⟨ga, i, none⟩ = some (.slice (some ⟨Ga i, 0, none⟩) (K i) (K i)) := by rw [HBA3.out.row.cell hlt, if_pos hlt]
            have hcb : w3.cell? ⟨gb, i, none⟩ = some (.slice (some ⟨Gb i, 0, none⟩) (K2 i) (K2 i)) := by rw [HBB3.out.row.cell hlt, if_pos hlt]
            have hcc : w3.cell? ⟨gc, i, none⟩ = some (.slice (some ⟨Gc i, 0, none⟩) (K i) (K i)) := by rw [HBC.out.row.cell hlt, if_pos hlt]
            have hLi := hL1 i hlt
            have g1 := HK12.out i hlt
            have g2 := HK2.out i hlt
            have hd1 : decide ((K2 i : Int) < (K i : Int)) = false := decide_eq_false (by omega)
            have hd2 : decide ((L i : Int) < (K2 i : Int)) = false := decide_eq_false (by omega)
            have q1 : (i : Int) < (n : Int) := by omega
            go_wp2_with fail
            go_quiet (fail)
            go_wp2_with fail
            clear hd1 hd2 hcc hca
            go_loopw [16] (fun pv wr => ∃ (j mm : Nat), j ≤ K2 i ∧ pv = .int .i64 j ∧ wr = w3.drewN mm) (fun pv _ => K2 i - (intOf pv).toNat)
            case atStart => exact ⟨0, _, Nat.zero_le _, rfl, World.drewN_drewN _ _ _⟩
            case round =>
              obtain ⟨j, mm2, hj, rfl, rfl⟩ := hrel
              by_cases hjl : j < K2 i
              · obtain ⟨b1, o1, hAi, hcj⟩ := HR3.out.inner i hlt j (by omega)
                rw [hAi] at hcp
                have p0 : w3.cell? ⟨b1, o1 + j * 3, none⟩ = some (.int .i64 (X i j 0)) := hcj 0 (by omega)
                have p1 : w3.cell? ⟨b1, o1 + j * 3 + 1, none⟩ = some (.int .i64 (X i j 1)) := by rw [Nat.add_assoc]; exact hcj 1 (by omega)
                have p2 : w3.cell? ⟨b1, o1 + j * 3 + 2, none⟩ = some (.int .i64 (X i j 2)) := by rw [Nat.add_assoc]; exact hcj 2 (by omega)
                obtain ⟨b0, b1', b2⟩ := HBB3.out.cells3 hlt hjl
                have q2 : (j : Int) < (L i : Int) := by omega
                have q3 : (j : Int) < (K2 i : Int) := by omega
                have he30 := eq30
                clear hcj
                go_wp2_with fail
                go_quiet (fail)
                go_wp2_with fail
                go_roundw
                case rel => exact ⟨j + 1, _, by omega, by go_num, rfl⟩
                case measure => simp [intOf]; omega
              · go_wp2_with fail
                have hca : w3.cell? ⟨ga, i, none⟩ = some (.slice (some ⟨Ga i, 0, none⟩) (K i) (K i)) := by rw [HBA3.out.row.cell hlt, if_pos hlt]
                have hcc : w3.cell? ⟨gc, i, none⟩ = some (.slice (some ⟨Gc i, 0, none⟩) (K i) (K i)) := by rw [HBC.out.row.cell hlt, if_pos hlt]
                go_loopw [17] (fun pv wr => ∃ (j mm : Nat), j ≤ K i ∧ pv = .int .i64 j ∧ wr = w3.drewN mm) (fun pv _ => K i - (intOf pv).toNat)
                case atStart => exact ⟨0, _, Nat.zero_le _, rfl, rfl⟩
                case round =>
                  obtain ⟨j, mm3, hj, rfl, rfl⟩ := hrel
                  by_cases hjl : j < K i
                  · obtain ⟨b1, o1, hAi, hcj⟩ := HR3.out.inner i hlt j (by omega)
                    rw [hAi] at hcp
                    have p0 : w3.cell? ⟨b1, o1 + j * 3, none⟩ = some (.int .i64 (X i j 0)) := hcj 0 (by omega)
                    have p1 : w3.cell? ⟨b1, o1 + j * 3 + 1, none⟩ = some (.int .i64 (X i j 1)) := by rw [Nat.add_assoc]; exact hcj 1 (by omega)
                    have p2 : w3.cell? ⟨b1, o1 + j * 3 + 2, none⟩ = some (.int .i64 (X i j 2)) := by rw [Nat.add_assoc]; exact hcj 2 (by omega)
                    obtain ⟨a0, a1, a2⟩ := HBA3.out.cells3 hlt hjl
                    obtain ⟨c0, c1, c2⟩ := HBC.out.cells3 hlt hjl
                    have q2 : (j : Int) < (L i : Int) := by omega
                    have q3 : (j : Int) < (K i : Int) := by omega
                    have he30 := eq30
                    clear hcj
                    go_wp2_with fail
                    go_quiet (fail)
                    go_wp2_with fail
                    go_roundw
                    case rel => exact ⟨j + 1, _, by omega, by go_num, rfl⟩
                    case measure => simp [intOf]; omega
                  · have HS1 : Hid (s1 + L i = sumTo (i + 1) L ∧ s2 + K i = sumTo (i + 1) K ∧ s3 + K2 i = sumTo (i + 1) K2) := by
                      obtain ⟨e1, e2, e3⟩ := HSum.out
                      exact ⟨by rw [e1]; rfl, by rw [e2]; rfl, by rw [e3]; rfl⟩
                    have g3 : K i ≤ 65536 := by omega
                    have g4 : K2 i ≤ 65536 := by omega
                    go_wp2_with fail
                    go_roundw
                    case rel => exact ⟨i + 1, s1 + L i, s2 + K i, s3 + K2 i, mm3, by omega, by go_num, by go_num, by go_num, by go_num, by omega, by omega, by omega, HS1, rfl⟩
                    case measure => simp [intOf]; omega
          · have hie : i = n := by omega
            subst hie
            obtain ⟨e1, e2, e3⟩ := HSum.out
            have HC1 : Hid (clampZ m s1 = (s2 : Int)) := by rw [e1, e2]; exact HFA.out.2.symm
            have HC2 : Hid (clampZ (m + 1) s1 = (s3 : Int)) := by rw [e1, e3]; exact HFB.out.2.symm
            clear e1 e2 e3 HSum
            have H19a : Hid (∀ w, Calls Trym.prog 19 #[.int .i64 m, .int .i64 s1] w fun e w' => e = .returned (.int .i64 s2) ∧ w = w') := fun w => by
              have h := clamp19 m s1 w (by omega)
              rw [HC1.out] at h
              exact h
            have H19b : Hid (∀ w, Calls Trym.prog 19 #[.int .i64 (m + 1), .int .i64 s1] w fun e w' => e = .returned (.int .i64 s3) ∧ w = w') := fun w => by
              have h := clamp19 (m + 1) s1 w (by omega)
              rw [HC2.out] at h
              exact h
            clear HC1 HC2
            go_wp2_with fail
            refine (H19a.out _).mono ?_
            rintro e w' ⟨rfl, rfl⟩
            go_wp2_with fail
            refine (H19b.out _).mono ?_
            rintro e w' ⟨rfl, rfl⟩
            have HSAC : Hid (sc = sa) := by
              have h1 := HSC.out
              have h2 := HSA.out
              cases sc <;> cases sa <;> simp_all
            have HSAB : Hid (sb = true → sa = true) := fun h => by
              refine HSA.out.2 ?_
              have h3 := HSB.out.1 h
              intro i1 j1 i2 j2 k1 k2 k3 k4
              exact h3 i1 j1 i2 j2 k1 (Nat.lt_of_lt_of_le k2 (HK12.out i1 k1)) k3 (Nat.lt_of_lt_of_le k4 (HK12.out i2 k3))
            have HFair : Hid (∀ p q, p < i → q < i → K q < L q → K p ≤ K q + 1 ∧ (q < p → K p ≤ K q)) := fun p q hp hq hu => HFA.out.fair hp hq hu
            have HKb : Hid (∀ p, p < i → K p ≤ L p ∧ L p ≤ 65536) := fun p hp => ⟨HK1.out p hp, hL1 p hp⟩
            clear H19a H19b HSA HSB HSC HFA HFB HK1 HK2 HK12 HBB3 HBC hwf hL1
            go_wp2_with fail
            go_loopw [18] (fun pv wr => ∃ (p mm : Nat), p ≤ i ∧ pv = .int .i64 p ∧ wr = w3.drewN mm) (fun pv _ => i - (intOf pv).toNat)
            case atStart => exact ⟨0, _, Nat.zero_le _, rfl, rfl⟩
            case round =>
              obtain ⟨p, mm2, hp, rfl, rfl⟩ := hrel
              by_cases hpl : p < i
              · obtain ⟨b, off, rfl, hcp⟩ := HR3.out.outer p hpl
                have hca : w3.cell? ⟨ga, p, none⟩ = some (.slice (some ⟨Ga p, 0, none⟩) (K p) (K p)) := by rw [HBA3.out.row.cell hpl, if_pos hpl]
                obtain ⟨g1, g2⟩ := HKb.out p hpl
                have q1 : (p : Int) < (i : Int) := by omega
                by_cases hu : K p < L p
                · go_wp2_with fail
                  go_quiet (fail)
                  go_wp2_with fail
                  go_loopw [19] (fun pv wr => ∃ (q mm : Nat), q ≤ i ∧ pv = .int .i64 q ∧ wr = w3.drewN mm) (fun pv _ => i - (intOf pv).toNat)
                  case atStart => exact ⟨0, _, Nat.zero_le _, rfl, World.drewN_drewN _ _ _⟩
                  case round =>
                    obtain ⟨q, mm3, hq, rfl, rfl⟩ := hrel
                    by_cases hql : q < i
                    · have hcq : w3.cell? ⟨ga, q, none⟩ = some (.slice (some ⟨Ga q, 0, none⟩) (K q) (K q)) := by rw [HBA3.out.row.cell hql, if_pos hql]
                      obtain ⟨g3, g4⟩ := HKb.out q hql
                      obtain ⟨f1, f2⟩ := HFair.out q p hql hpl hu
                      have q2 : (q : Int) < (i : Int) := by omega
                      by_cases hpq : p < q
                      · have f3 := f2 hpq
                        clear f2
                        go_wp2_with fail
                        go_quiet (fail)
                        go_wp2_with fail
                        go_quiet (fail)
                        go_wp2_with fail
                        go_roundw
                        case rel => exact ⟨q + 1, _, by omega, by go_num, rfl⟩
                        case measure => simp [intOf]; omega
                      · have hd : decide ((p : Int) < (q : Int)) = false := decide_eq_false (by omega)
                        clear f2
                        go_wp2_with fail
                        go_quiet (fail)
                        go_wp2_with fail
                        go_quiet (fail)
                        go_wp2_with fail
                        go_roundw
                        case rel => exact ⟨q + 1, _, by omega, by go_num, rfl⟩
                        case measure => simp [intOf]; omega
                    · go_wp2_with fail
                      go_roundw
                      case rel => exact ⟨p + 1, _, by omega, by go_num, rfl⟩
                      case measure => simp [intOf]; omega
                · go_wp2_with fail
                  go_quiet (fail)
                  go_wp2_with fail
                  go_roundw
                  case rel => exact ⟨p + 1, _, by omega, by go_num, rfl⟩
                  case measure => simp [intOf]; omega
              · have hb := HSAB.out
                have hs := HSAC.out
                clear HSAB HSAC
                have HB4 : Hid (Below w.heap.size w (w3.drewN mm2)) := below_drewN HB3.out mm2
                subst hs
                cases sc <;> cases sb
                · go_wp2_with fail
                  go_ret
                  exact ⟨rfl, HB4.out⟩
                · exact absurd (hb rfl) (by decide)
                · go_wp2_with fail
                  go_ret
                  exact ⟨rfl, HB4.out⟩
                · go_wp2_with fail
                  go_ret
                  exact ⟨rfl, HB4.out⟩
end Go.Proofs.Qxb6617202aMods
