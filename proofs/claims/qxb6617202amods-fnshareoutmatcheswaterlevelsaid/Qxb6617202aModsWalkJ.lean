/- 'FnShareOutMatchesWaterLevel': the walk. -/
import Derived.Test.Qxb6617202aModsWalkD
import Derived.Test.Qxb6617202aModsWater
import Derived.Test.Qxb6617202aModsGot
import Derived.Test.Qxb6617202aModsDisj
namespace Go.Proofs.Qxb6617202aMods
open Go.RowKit Go.Deep Go.Maps
set_option linter.unusedVariables false

/-- The cells of the move (i, j), in any world that has only grown. -/
theorem Rd.three {w : World} {a : Option Addr} {n : Nat} {A : Nat → Option Addr} {L C : Nat → Nat} {X : Nat → Nat → Nat → Int} (h : Rd w a n A L C X) {i j : Nat} (hi : i < n) (hj : j < L i) {b o b1 o1 : Nat} (ha : a = some ⟨b, o, none⟩) (hA : A i = some ⟨b1, o1, none⟩) :
    w.cell? ⟨b, o + i, none⟩ = some (.slice (some ⟨b1, o1, none⟩) (L i) (C i)) ∧ w.cell? ⟨b1, o1 + j * 3, none⟩ = some (.int .i64 (X i j 0)) ∧ w.cell? ⟨b1, o1 + j * 3 + 1, none⟩ = some (.int .i64 (X i j 1)) ∧ w.cell? ⟨b1, o1 + j * 3 + 2, none⟩ = some (.int .i64 (X i j 2)) := by
  obtain ⟨b', o', e, hc⟩ := h.outer i hi
  obtain ⟨b1', o1', e1, hc1⟩ := h.inner i hi j hj
  rw [ha] at e
  obtain ⟨rfl, rfl⟩ : b = b' ∧ o = o' := by simpa using e
  rw [hA] at e1 hc
  obtain ⟨rfl, rfl⟩ : b1 = b1' ∧ o1 = o1' := by simpa using e1
  exact ⟨hc, hc1 0 (by omega), by rw [Nat.add_assoc]; exact hc1 1 (by omega), by rw [Nat.add_assoc]; exact hc1 2 (by omega)⟩

set_option maxHeartbeats 2000000 in
set_option maxRecDepth 100000 in
theorem water_in (a : Option Addr) (n cap : Nat) (A : Nat → Option Addr) (L C : Nat → Nat) (X : Nat → Nat → Nat → Int) (m : Int) (w : World) (hn : n ≤ 9223372036854775807) (hm : -9223372036854775808 ≤ m ∧ m ≤ 9223372036854775807)
    (hrd : Rd w a n A L C X) (hL : ∀ i, i < n → L i ≤ 9223372036854775807) (hwf : ∀ i, i < n → ∀ j, j < L i → ∀ c, c < 3 → (Lit.int .i64 (X i j c)).wf = true) :
    Calls Trym.prog 3 #[.slice a n cap, .int .i64 m] w fun e w' => e = .returned (.bool true) ∧ Below w.heap.size w w' := by
  have H7 : Hid (Calls Trym.prog 7 #[.slice a n cap, .int .i64 m] w fun e w' => SaysBool True e ∧ w = w') := bytes7 a n cap A L C X m w hn hrd hL
  have H8 : Hid (Calls Trym.prog 8 #[.slice a n cap] w fun e w' => SaysBool (FitsP n L) e ∧ w = w') := fits8 a n cap A L C X w hn hrd hL
  have HRD : Hid (Rd w a n A L C X) := hrd
  obtain ⟨i0, hi0, hz0, hz1, hz2⟩ := info_parts Trym.info3w
  clear hrd hL
  go_enter Trym.func3, Trym.ntmps3
  go_wp2_with fail
  refine H7.out.mono ?_
  rintro e w' ⟨⟨r, rfl, _⟩, rfl⟩
  cases r with
  | false =>
    go_wp2_with fail
    go_ret
    exact ⟨rfl, Below.refl _ _⟩
  | true =>
    go_wp2_with fail
    refine H8.out.mono ?_
    rintro e w' ⟨⟨r, rfl, hfit⟩, rfl⟩
    cases r with
    | false =>
      go_wp2_with fail
      go_ret
      exact ⟨rfl, Below.refl _ _⟩
    | true =>
      obtain ⟨hn1, hL1⟩ := hfit rfl
      clear hfit H8 H7
      go_wp2_with fail
      refine (zz_any a n cap A L C X m w hn1 hm HRD.out hL1 hwf).mono ?_
      rintro e w1 ⟨sa, K, ga, Ga, rfl, hfa, hsa, hba, hb1⟩
      have HFA : Hid (Fair n L K m) := hfa
      have HSA : Hid (sa = true ↔ NoClash n K X) := hsa
      have HBA : Hid (Built w1 ga 29 30 n n K X Ga) := hba
      have HB1 : Hid (Below w.heap.size w w1) := hb1
      have HR1 : Hid (Rd w1 a n A L C X) := HRD.out.below hb1
      clear hfa hsa hba hb1
      go_wp2_with fail
      refine (water10 a n cap A L C X m w1 hn1 hm HR1.out hL1).mono ?_
      rintro e w2 ⟨K2, rfl, hfw, hrw, hb2⟩
      have HKK := HFA.out.unique hfw
      have HROW : Hid (w2.rowIs w1.heap.size 3 n (fun i => .int .i64 (K i))) := hrw.congr (fun i hi => by rw [HKK i hi])
      have HB2 : Hid (Below w.heap.size w w2) := HB1.out.trans (hb2.mono HB1.out.size)
      have HR2 : Hid (Rd w2 a n A L C X) := HR1.out.below hb2
      have HBA2 : Hid (Built w2 ga 29 30 n n K X Ga) := HBA.out.below hb2
      have HK1 : Hid (∀ i, i < n → K i ≤ L i) := HFA.out.le
      clear hfw hrw HKK hb2 HR1 HBA HB1 HRD HFA
      generalize w1.heap.size = gw at *
      go_wp2_with fail
      go_loopw [8, 9, 10] (fun v8 v9 pv wr => ∃ (i k : Nat) (F T : Nat → Int), i ≤ n ∧ pv = .int .i64 i ∧ k ≤ i * 65536 ∧ Hid (Got w2.heap.size wr v8 v9 k k F T) ∧ Hid (∀ x, In F 0 k x ↔ Seen K X 1 i 0 x) ∧ Hid (∀ x, In T 0 k x ↔ Seen K X 2 i 0 x) ∧ Hid (Below w2.heap.size w2 wr))
        (fun _ _ pv _ => n - (intOf pv).toNat)
      case atStart =>
        refine ⟨0, 0, (fun _ => 0), (fun _ => 0), Nat.zero_le _, rfl, Nat.zero_le _, Got.start w2 _ _, fun x => ?_, fun x => ?_, Below.refl _ _⟩
        · rw [← Seen_start]; exact ⟨fun ⟨p, h1, h2, _⟩ => absurd h2 (Nat.not_lt_zero _), False.elim⟩
        · rw [← Seen_start]; exact ⟨fun ⟨p, h1, h2, _⟩ => absurd h2 (Nat.not_lt_zero _), False.elim⟩
      case round =>
        obtain ⟨i, k, F, T, hi, rfl, hk, HG, HF, HT, HB⟩ := hrel
        by_cases hlt : i < n
        · obtain ⟨b, off, rfl, _⟩ := HR2.out.outer i hlt
          have HRr : Hid (Rd wr (some ⟨b, off, none⟩) n A L C X) := HR2.out.below HB.out
          have hca : wr.cell? ⟨ga, i, none⟩ = some (.slice (some ⟨Ga i, 0, none⟩) (K i) (K i)) := by rw [(HBA2.out.below HB.out).row.cell hlt, if_pos hlt]
          have hcw : wr.cell? ⟨gw, i, none⟩ = some (.int .i64 (K i)) := (HB.out.cell HROW.out.lt).trans (HROW.out.cell hlt)
          have hLi := hL1 i hlt
          have hKi := HK1.out i hlt
          have q1 : (i : Int) < (n : Int) := by omega
          go_wp2_with fail
          go_quiet (fail)
          go_wp2_with fail
          have HG1 : Hid (Got w2.heap.size (wr.drewN nq) u8 u9 k k F T) := HG.out.drewN nq
          have HB3 : Hid (Below w2.heap.size w2 (wr.drewN nq)) := below_drewN HB.out nq
          clear HRr hca hcw HG HB
          generalize wr.drewN nq = wq at *
          go_loopw [8, 9, 11] (fun v8 v9 pv wi => ∃ (j k : Nat) (F T : Nat → Int), j ≤ K i ∧ pv = .int .i64 j ∧ k ≤ i * 65536 + j ∧ Hid (Got w2.heap.size wi v8 v9 k k F T) ∧ Hid (∀ x, In F 0 k x ↔ Seen K X 1 i j x) ∧ Hid (∀ x, In T 0 k x ↔ Seen K X 2 i j x) ∧ Hid (Below w2.heap.size w2 wi))
            (fun _ _ pv _ => K i - (intOf pv).toNat)
          case atStart => exact ⟨0, k, F, T, Nat.zero_le _, rfl, Nat.le_trans hk (Nat.le_add_right _ _), HG1, HF, HT, HB3⟩
          case round =>
            clear HG1 HF HT HB3 hk
            obtain ⟨j, k, F, T, hj, rfl, hk, HG, HF, HT, HB⟩ := hrel
            have hcw : wr.cell? ⟨gw, i, none⟩ = some (.int .i64 (K i)) := (HB.out.cell HROW.out.lt).trans (HROW.out.cell hlt)
            by_cases hjl : j < K i
            · obtain ⟨b1, o1, hAi, _⟩ := HR2.out.inner i hlt j (by omega)
              have HAi : Hid (A i = some ⟨b1, o1, none⟩) := hAi
              have HRr : Hid (Rd wr (some ⟨b, off, none⟩) n A L C X) := HR2.out.below HB.out
              have hca : wr.cell? ⟨ga, i, none⟩ = some (.slice (some ⟨Ga i, 0, none⟩) (K i) (K i)) := by rw [(HBA2.out.below HB.out).row.cell hlt, if_pos hlt]
              obtain ⟨p, p0, p1, p2⟩ := HRr.out.three hlt (show j < L i by omega) rfl HAi.out
              obtain ⟨s0, s1, s2⟩ := (HBA2.out.below HB.out).cells3 hlt hjl
              have q2 : (j : Int) < (L i : Int) := by omega
              have q3 : (j : Int) < (K i : Int) := by omega
              have he30 := eq30
              have hk3 : k ≤ 268435456 + 65536 := by omega
              clear hAi
              go_wp2_with fail
              go_quiet (fail)
              have HGq : Hid (Got w2.heap.size (wr.drewN nq) u8 u9 k k F T) := HG.out.drewN nq
              have HBq : Hid (Below w2.heap.size w2 (wr.drewN nq)) := below_drewN HB.out nq
              clear p p0 p1 p2 s0 s1 s2 hca hcw HRr HG HB he30
              generalize wr.drewN nq = wq at *
              obtain ⟨p, p0, p1, p2⟩ := (HR2.out.below HBq.out).three hlt (show j < L i by omega) rfl HAi.out
              go_wp2_with (first
                | (at_builtin; refine wpList_append_own_at _ rfl (.tmp 72) (.tmp 81) 27 rfl w2.heap.size 3 i0 (.int .i64 0) 1 8 Trym.underlying27 hi0 hz0 hz1 hz2 rfl (by decide) _ _ _ rfl (HGq.out.f.alloc _) ⟨wq.heap.size, 0, none⟩ 1 1 [.int .i64 (X i j 1)] rfl rfl (cell_one_new _ _ _) (ints_oneCell .i64 [X i j 1]) (by unfold maxLen; omega) (by omega) (by have := HGq.out.base; simp; omega) ?_
                   intro x8 w3 hown3 hgrow3 hnil3 hloc3
                   have HG3 : Hid (Got w2.heap.size w3 x8 u9 (k + 1) k (setf F k (X i j 1)) T) := HGq.out.pushF hown3 hgrow3 hloc3
                   have HB3 : Hid (Below w2.heap.size w2 w3) := HGq.out.belowF HBq.out hgrow3
                   clear hown3 hgrow3 hnil3 hloc3 p p0 p1 p2
                   obtain ⟨p, p0, p1, p2⟩ := (HR2.out.below HB3.out).three hlt (show j < L i by omega) rfl HAi.out)
                | (at_builtin; refine wpList_append_own_at _ rfl (.tmp 83) (.tmp 92) 27 rfl w2.heap.size 3 i0 (.int .i64 0) 1 8 Trym.underlying27 hi0 hz0 hz1 hz2 rfl (by decide) _ _ _ rfl (HG3.out.t.alloc _) ⟨w3.heap.size, 0, none⟩ 1 1 [.int .i64 (X i j 2)] rfl rfl (cell_one_new _ _ _) (ints_oneCell .i64 [X i j 2]) (by unfold maxLen; omega) (by omega) (by have := HG3.out.base; simp; omega) ?_
                   intro x9 w4 hown4 hgrow4 hnil4 hloc4
                   have HG4 : Hid (Got w2.heap.size w4 x8 x9 (k + 1) (k + 1) (setf F k (X i j 1)) (setf T k (X i j 2))) := HG3.out.pushT hown4 hgrow4 hloc4
                   have HB4 : Hid (Below w2.heap.size w2 w4) := HG3.out.belowT HB3.out hgrow4
                   clear hown4 hgrow4 hnil4 hloc4 p p0 p1 p2))
              have hk4 : k + 1 ≤ i * 65536 + (j + 1) := Nat.succ_le_succ hk
              have HF4 : Hid (∀ x, In (setf F k (X i j 1)) 0 (k + 1) x ↔ Seen K X 1 i (j + 1) x) := seen_push HF.out
              have HT4 : Hid (∀ x, In (setf T k (X i j 2)) 0 (k + 1) x ↔ Seen K X 2 i (j + 1) x) := seen_push HT.out
              exact ⟨⟨j + 1, k + 1, _, _, hjl, by go_num, hk4, HG4, HF4, HT4, HB4⟩, by simp [intOf]; omega⟩
            · have hje : j = K i := by omega
              have HF4 : Hid (∀ x, In F 0 k x ↔ Seen K X 1 (i + 1) 0 x) := fun x => (HF.out x).trans (by rw [hje]; exact Seen_next K X 1 i x)
              have HT4 : Hid (∀ x, In T 0 k x ↔ Seen K X 2 (i + 1) 0 x) := fun x => (HT.out x).trans (by rw [hje]; exact Seen_next K X 2 i x)
              have hk4 : k ≤ (i + 1) * 65536 := by omega
              go_wp2_with fail
              go_roundw
              case rel => exact ⟨i + 1, k, F, T, by omega, by go_num, hk4, HG, HF4, HT4, HB⟩
              case measure => simp [intOf]; omega
        · have hie : i = n := by omega
          subst hie
          obtain ⟨aF, cF, hv8, hIF⟩ := owns_ints HG.out.f
          obtain ⟨aT, cT, hv9, hIT⟩ := owns_ints HG.out.t
          subst hv8 hv9
          have HIF : Hid (Ints wr aF k F) := hIF
          have HIT : Hid (Ints wr aT k T) := hIT
          have hk2 : k ≤ 268435456 := by omega
          have HBw : Hid (Below w.heap.size w wr) := HB2.out.trans (HB.out.mono HB2.out.size)
          clear hIF hIT HG HB HB2 HR2 HBA2 HROW hwf hL1 HK1 hk
          go_wp2_with fail
          refine (sort12 aF k cF F wr hk2 HIF.out).mono ?_
          rintro e w3 ⟨g1, S1, rfl, hr1, hs1, hm1, hb3⟩
          have HR1 : Hid (Row w3 g1 k S1) := hr1
          have HS1 : Hid (SortedOn S1 0 k) := hs1
          have HM1 : Hid (∀ x, In S1 0 k x ↔ Seen K X 1 i 0 x) := fun x => (hm1 x).trans (HF.out x)
          have HIT3 : Hid (Ints w3 aT k T) := HIT.out.below hb3
          have HBx : Hid (Below w.heap.size w w3) := HBw.out.trans (hb3.mono HBw.out.size)
          clear hr1 hs1 hm1 hb3 HIT HIF HBw HF
          go_wp2_with fail
          refine (sort12 aT k cT T w3 hk2 HIT3.out).mono ?_
          rintro e w4 ⟨g2, S2, rfl, hr2, hs2, hm2, hb4⟩
          have HR1' : Hid (Row w4 g1 k S1) := World.rowIs.of_block HR1.out (hb4.block _ (World.rowIs.lt HR1.out))
          have HR2 : Hid (Row w4 g2 k S2) := hr2
          have HS2 : Hid (SortedOn S2 0 k) := hs2
          have HM2 : Hid (∀ x, In S2 0 k x ↔ Seen K X 2 i 0 x) := fun x => (hm2 x).trans (HT.out x)
          have HBy : Hid (Below w.heap.size w w4) := HBx.out.trans (hb4.mono HBx.out.size)
          clear hr2 hs2 hm2 hb4 HIT3 HBx HT HR1
          go_wp2_with fail
          refine (disj11 g1 g2 k k S1 S2 w4 hk2 hk2 HR1'.out HR2.out HS1.out HS2.out).mono ?_
          rintro e w5 ⟨r, mm, rfl, rfl, hr⟩
          have hsr : sa = r := by
            have h1 : r = true ↔ NoClash i K X := hr.trans (by
              rw [NoClash_of]
              constructor
              · intro h x h2 h1
                exact h x ((HM1.out x).2 h1) ((HM2.out x).2 h2)
              · intro h x h1 h2
                exact h x ((HM2.out x).1 h2) ((HM1.out x).1 h1))
            have h2 := HSA.out
            cases sa <;> cases r <;> simp_all
          subst hsr
          have HBz : Hid (Below w.heap.size w (w4.drewN mm)) := below_drewN HBy.out mm
          clear hr HSA HM1 HM2
          cases sa
          · go_wp2_with fail
            go_ret
            exact ⟨rfl, HBz.out⟩
          · go_wp2_with fail
            go_ret
            exact ⟨rfl, HBz.out⟩
end Go.Proofs.Qxb6617202aMods
