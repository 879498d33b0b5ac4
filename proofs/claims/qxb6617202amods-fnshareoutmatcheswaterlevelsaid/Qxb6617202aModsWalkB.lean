/- 'ZZShareOut': the walk. -/
import Derived.Test.Qxb6617202aModsWalkA
import Derived.Test.Qxb6617202aModsBuilt
import Derived.BigRegion
namespace Go.Proofs.Qxb6617202aMods
open Go.RowKit Go.Deep Go.Maps
set_option linter.unusedVariables false

/-- What 'ZZShareOut' leaves. -/
def ZZPost (n : Nat) (L : Nat → Nat) (X : Nat → Nat → Nat → Int) (m : Int) (w : World) (e : Ending) (w' : World) : Prop :=
  ∃ s K g G, e = .returned (.tuple #[.slice (some ⟨g, 0, none⟩) n n, .bool s]) ∧ Fair n L K m ∧ (s = true ↔ NoClash n K X) ∧ Built w' g 29 30 n n K X G ∧ Below w.heap.size w w'

set_option maxHeartbeats 1000000 in
set_option maxRecDepth 100000 in
theorem zz_any (a : Option Addr) (n cap : Nat) (A : Nat → Option Addr) (L C : Nat → Nat) (X : Nat → Nat → Nat → Int) (m : Int) (w : World) (hn : n ≤ 4096) (hm : -9223372036854775808 ≤ m ∧ m ≤ 9223372036854775807)
    (hrd : Rd w a n A L C X) (hL : ∀ i, i < n → L i ≤ 65536) (hwf : ∀ i, i < n → ∀ j, j < L i → ∀ c, c < 3 → (Lit.int .i64 (X i j c)).wf = true) :
    Calls Trym.prog 9 #[.slice a n cap, .int .i64 m] w fun e w' => ZZPost n L X m w e w' := by
  have hmk := run_make_row' (P := Trym.prog) 41 42 (.slice none 0 0) 24 Trym.underlying41 Trym.info42 rfl .i64 .i64 n (by omega) (by omega)
  have HRD : Hid (Rd w a n A L C X) := hrd
  clear hrd
  go_enter Trym.func9, Trym.ntmps9
  go_wp2_with fail
  go_loopw [21] (fun pv wr => ∃ (i : Nat) (G : Nat → Nat), i ≤ n ∧ pv = .int .i64 i ∧ Hid (Built wr w.heap.size 42 44 n i L X G) ∧ Hid (Below w.heap.size w wr)) (fun pv _ => n - (intOf pv).toNat)
  case atStart => exact ⟨0, fun _ => 0, Nat.zero_le _, rfl, Built.start, (Below.refl _ _).alloc (Nat.le_refl _) _⟩
  case round =>
    obtain ⟨i, G, hi, rfl, HBu, HB⟩ := hrel
    by_cases hlt : i < n
    · obtain ⟨b, off, rfl, hco⟩ := HRD.out.outer i hlt
      have hc : wr.cell? ⟨b, off + i, none⟩ = some (.slice (A i) (L i) (C i)) := (HB.out.cell (World.block_lt_of_cell? w _ hco)).trans hco
      have hLi := hL i hlt
      have hm3 := make3_42 (L i) hLi
      have hbw : b < wr.heap.size := World.block_lt_of_cell? wr _ hc
      have HBu1 : Hid (Built (wr.alloc (.cells (cells3 (L i)) 44)) w.heap.size 42 44 n i L X G) := HBu.out.below ((Below.refl _ _).alloc (Nat.le_refl _) _)
      have HF1 : Hid (Filled (wr.alloc (.cells (cells3 (L i)) 44)) wr.heap.size 44 (L i) 0 (X i)) := Filled.start wr (L i) 44 (X i)
      have HB1 : Hid (Below w.heap.size w (wr.alloc (.cells (cells3 (L i)) 44))) := HB.out.alloc HB.out.size _
      have HGd : Hid (∀ i', i' < i → G i' ≠ wr.heap.size) := fun i' hi' => Nat.ne_of_lt (HBu.out.inner i' hi').1.lt
      have hgb : w.heap.size < wr.heap.size := HBu.out.row.lt
      go_wp2_with fail
      generalize wr.heap.size = gl at *
      generalize wr.alloc (.cells (cells3 (L i)) 44) = w1 at *
      clear HBu HB hc hm3 hmk
      go_loopw [35] (fun pv wi => ∃ j : Nat, j ≤ L i ∧ pv = .int .i64 j ∧ Hid (Filled wi gl 44 (L i) j (X i)) ∧ Hid (Built wi w.heap.size 42 44 n i L X G) ∧ Hid (Below w.heap.size w wi)) (fun pv _ => L i - (intOf pv).toNat)
      case atStart => exact ⟨0, Nat.zero_le _, rfl, HF1, HBu1, HB1⟩
      case round =>
        obtain ⟨j, hj, rfl, HFj, HBj, HBl⟩ := hrel
        by_cases hjl : j < L i
        · obtain ⟨b1, o1, hAi, hcj⟩ := HRD.out.inner i hlt j hjl
          have hc : wr.cell? ⟨b, off + i, none⟩ = some (.slice (some ⟨b1, o1, none⟩) (L i) (C i)) := by
            rw [← hAi]
            exact (HBl.out.cell (World.block_lt_of_cell? w _ hco)).trans hco
          have c0 : wr.cell? ⟨b1, o1 + j * 3, none⟩ = some (.int .i64 (X i j 0)) := (HBl.out.cell (World.block_lt_of_cell? w _ (hcj 0 (by omega)))).trans (hcj 0 (by omega))
          have c1 : wr.cell? ⟨b1, o1 + j * 3 + 1, none⟩ = some (.int .i64 (X i j 1)) := by
            rw [Nat.add_assoc]; exact (HBl.out.cell (World.block_lt_of_cell? w _ (hcj 1 (by omega)))).trans (hcj 1 (by omega))
          have c2 : wr.cell? ⟨b1, o1 + j * 3 + 2, none⟩ = some (.int .i64 (X i j 2)) := by
            rw [Nat.add_assoc]; exact (HBl.out.cell (World.block_lt_of_cell? w _ (hcj 2 (by omega)))).trans (hcj 2 (by omega))
          have d0 := World.rowIs.cell HFj.out (i := j * 3) (by omega)
          have d1 := World.rowIs.cell HFj.out (i := j * 3 + 1) (by omega)
          have d2 := World.rowIs.cell HFj.out (i := j * 3 + 2) (by omega)
          rw [if_neg (by omega)] at d0 d1 d2
          have f0 := World.rowIs.frozen HFj.out (j * 3)
          have f1 := World.rowIs.frozen HFj.out (j * 3 + 1)
          have f2 := World.rowIs.frozen HFj.out (j * 3 + 2)
          have q1 : (i : Int) < (n : Int) := by omega
          have q2 : (j : Int) < (L i : Int) := by omega
          clear hcj hAi
          go_wp2_with fail
          go_region
          have HF' : Hid (Filled (((wr.setCell ⟨gl, j * 3, none⟩ (.int .i64 (X i j 0))).setCell ⟨gl, j * 3 + 1, none⟩ (.int .i64 (X i j 1))).setCell ⟨gl, j * 3 + 2, none⟩ (.int .i64 (X i j 2))).drew gl 44 (L i) (j + 1) (X i)) := HFj.out.step.drew
          have HBu' : Hid (Built (((wr.setCell ⟨gl, j * 3, none⟩ (.int .i64 (X i j 0))).setCell ⟨gl, j * 3 + 1, none⟩ (.int .i64 (X i j 1))).setCell ⟨gl, j * 3 + 2, none⟩ (.int .i64 (X i j 2))).drew w.heap.size 42 44 n i L X G) := (HBj.out.set3 (Nat.ne_of_lt hgb) HGd.out _ _ _ _ _ _).drew
          have HB' : Hid (Below w.heap.size w (((wr.setCell ⟨gl, j * 3, none⟩ (.int .i64 (X i j 0))).setCell ⟨gl, j * 3 + 1, none⟩ (.int .i64 (X i j 1))).setCell ⟨gl, j * 3 + 2, none⟩ (.int .i64 (X i j 2))).drew) := (below_set3 HBl.out (Nat.le_of_lt hgb) _ _ _ _ _ _).drew
          go_wp2_with fail
          go_roundw
          case rel => exact ⟨j + 1, by omega, by go_num, HF', HBu', HB'⟩
          case measure => simp [intOf]; omega
        · have hje : j = L i := by omega
          subst hje
          have d0 := HBj.out.row.cell hlt
          rw [if_neg (by omega)] at d0
          have f0 := HBj.out.row.frozen i
          have HBu' : Hid (Built (wr.setCell ⟨w.heap.size, i, none⟩ (.slice (some ⟨gl, 0, none⟩) (L i) (L i))) w.heap.size 42 44 n (i + 1) L X (fun i' => if i' = i then gl else G i')) := HBj.out.step HFj.out hgb HGd.out
          have HB' : Hid (Below w.heap.size w (wr.setCell ⟨w.heap.size, i, none⟩ (.slice (some ⟨gl, 0, none⟩) (L i) (L i)))) := HBl.out.setCell (Nat.le_refl _) _
          go_wp2_with fail
          go_roundw
          case rel => exact ⟨i + 1, _, by omega, by go_num, HBu', HB'⟩
          case measure => simp [intOf]; omega
    · have hie : i = n := by omega
      subst hie
      have hrd1 := HBu.out.rd
      have hg1 : w.heap.size < wr.heap.size := HBu.out.row.lt
      have HSH : Hid (Calls Trym.prog 20 #[.slice (some ⟨w.heap.size, 0, none⟩) i i, .int .i64 m] wr fun e w' => SharePost i (fun i' => some ⟨G i', 0, none⟩) L L X m wr e w') :=
        share_any w.heap.size i _ L L X m wr hn hm (fun i' hi' => by
            obtain ⟨b, off, e, hc⟩ := hrd1.outer i' hi'
            obtain ⟨rfl, rfl⟩ : w.heap.size = b ∧ 0 = off := by simpa using e
            simpa using hc) hg1 (fun i' hi' => by have := hL i' hi'; omega) (fun i' hi' j hj => hrd1.inner i' hi' j hj) hwf
      have HR1 : Hid (Rd wr (some ⟨w.heap.size, 0, none⟩) i (fun i' => some ⟨G i', 0, none⟩) L L X) := hrd1
      clear hrd1 HBu hmk
      go_wp2_with fail
      refine HSH.out.mono ?_
      rintro e w2 ⟨s, K, rfl, hfair, hs, hrow, hb2⟩
      clear HSH
      have HR2 : Hid (Rd w2 (some ⟨wr.heap.size, 0, none⟩) i _ K _ X) := rd_shares (HR1.out.below hb2) hfair.le hrow
      have HB2 : Hid (Below w.heap.size w w2) := HB.out.trans (hb2.mono (Nat.le_of_lt hg1))
      have HK : Hid (∀ i', i' < i → K i' ≤ L i') := hfair.le
      have HFa : Hid (Fair i L K m) := hfair
      have HS : Hid (s = true ↔ NoClash i K X) := hs
      have hz2 : wr.heap.size < w2.heap.size := hrow.lt
      clear hfair hs hrow hb2 HR1 HB
      generalize (fun i => if K i = 0 then none else (fun i' => some (Addr.mk (G i') 0 none)) i) = A2 at HR2
      generalize (fun i => if K i = 0 then 0 else L i) = C2 at HR2
      generalize wr.heap.size = gs at *
      have hmk2 := run_make_row' (P := Trym.prog) 22 29 (.slice none 0 0) 24 Trym.underlying22 Trym.info29 rfl .i64 .i64 i (by omega) (by omega)
      have HKL : Hid (∀ i', i' < i → K i' ≤ 65536) := fun i' hi' => Nat.le_trans (HK.out i' hi') (hL i' hi')
      clear HRD HK
      go_wp2_with fail
      go_loopw [83] (fun pv wi => ∃ (p : Nat) (G : Nat → Nat), p ≤ i ∧ pv = .int .i64 p ∧ Hid (Built wi w2.heap.size 29 30 i p K X G) ∧ Hid (Below w2.heap.size w2 wi)) (fun pv _ => i - (intOf pv).toNat)
      case atStart => exact ⟨0, fun _ => 0, Nat.zero_le _, rfl, Built.start, (Below.refl _ _).alloc (Nat.le_refl _) _⟩
      case round =>
        obtain ⟨p, G2, hp, rfl, HBu, HB⟩ := hrel
        by_cases hlt : p < i
        · obtain ⟨b, off, hbo, hco⟩ := HR2.out.outer p hlt
          obtain ⟨rfl, rfl⟩ : gs = b ∧ 0 = off := by simpa using hbo
          rw [Nat.zero_add] at hco
          have hc : wr.cell? ⟨gs, p, none⟩ = some (.slice (A2 p) (K p) (C2 p)) := (HB.out.cell (World.block_lt_of_cell? w2 _ hco)).trans hco
          have hbw : gs < wr.heap.size := World.block_lt_of_cell? wr _ hc
          have hKp := HKL.out p hlt
          have hm3 := make3_29 (K p) hKp
          have HBu1 : Hid (Built (wr.alloc (.cells (cells3 (K p)) 30)) w2.heap.size 29 30 i p K X G2) := HBu.out.below ((Below.refl _ _).alloc (Nat.le_refl _) _)
          have HF1 : Hid (Filled (wr.alloc (.cells (cells3 (K p)) 30)) wr.heap.size 30 (K p) 0 (X p)) := Filled.start wr (K p) 30 (X p)
          have HB1 : Hid (Below w2.heap.size w2 (wr.alloc (.cells (cells3 (K p)) 30))) := HB.out.alloc HB.out.size _
          have HGd : Hid (∀ i', i' < p → G2 i' ≠ wr.heap.size) := fun i' hi' => Nat.ne_of_lt (HBu.out.inner i' hi').1.lt
          have hgb : w2.heap.size < wr.heap.size := HBu.out.row.lt
          clear hbo hmk2
          go_wp2_with fail
          generalize wr.heap.size = gl at *
          generalize wr.alloc (.cells (cells3 (K p)) 30) = w1 at *
          clear HBu HB hc hm3
          go_loopw [97] (fun pv wi => ∃ j : Nat, j ≤ K p ∧ pv = .int .i64 j ∧ Hid (Filled wi gl 30 (K p) j (X p)) ∧ Hid (Built wi w2.heap.size 29 30 i p K X G2) ∧ Hid (Below w2.heap.size w2 wi)) (fun pv _ => K p - (intOf pv).toNat)
          case atStart => exact ⟨0, Nat.zero_le _, rfl, HF1, HBu1, HB1⟩
          case round =>
            obtain ⟨j, hj, rfl, HFj, HBj, HBl⟩ := hrel
            by_cases hjl : j < K p
            · obtain ⟨b1, o1, hAi, hcj⟩ := HR2.out.inner p hlt j hjl
              have hc : wr.cell? ⟨gs, p, none⟩ = some (.slice (some ⟨b1, o1, none⟩) (K p) (C2 p)) := by
                rw [← hAi]
                exact (HBl.out.cell (World.block_lt_of_cell? w2 _ hco)).trans hco
              have c0 : wr.cell? ⟨b1, o1 + j * 3, none⟩ = some (.int .i64 (X p j 0)) := (HBl.out.cell (World.block_lt_of_cell? w2 _ (hcj 0 (by omega)))).trans (hcj 0 (by omega))
              have c1 : wr.cell? ⟨b1, o1 + j * 3 + 1, none⟩ = some (.int .i64 (X p j 1)) := by
                rw [Nat.add_assoc]; exact (HBl.out.cell (World.block_lt_of_cell? w2 _ (hcj 1 (by omega)))).trans (hcj 1 (by omega))
              have c2 : wr.cell? ⟨b1, o1 + j * 3 + 2, none⟩ = some (.int .i64 (X p j 2)) := by
                rw [Nat.add_assoc]; exact (HBl.out.cell (World.block_lt_of_cell? w2 _ (hcj 2 (by omega)))).trans (hcj 2 (by omega))
              have d0 := World.rowIs.cell HFj.out (i := j * 3) (by omega)
              have d1 := World.rowIs.cell HFj.out (i := j * 3 + 1) (by omega)
              have d2 := World.rowIs.cell HFj.out (i := j * 3 + 2) (by omega)
              rw [if_neg (by omega)] at d0 d1 d2
              have f0 := World.rowIs.frozen HFj.out (j * 3)
              have f1 := World.rowIs.frozen HFj.out (j * 3 + 1)
              have f2 := World.rowIs.frozen HFj.out (j * 3 + 2)
              have q1 : (p : Int) < (i : Int) := by omega
              have q2 : (j : Int) < (K p : Int) := by omega
              clear hcj hAi
              go_wp2_with fail
              go_region
              have HF' : Hid (Filled (((wr.setCell ⟨gl, j * 3, none⟩ (.int .i64 (X p j 0))).setCell ⟨gl, j * 3 + 1, none⟩ (.int .i64 (X p j 1))).setCell ⟨gl, j * 3 + 2, none⟩ (.int .i64 (X p j 2))).drew gl 30 (K p) (j + 1) (X p)) := HFj.out.step.drew
              have HBu' : Hid (Built (((wr.setCell ⟨gl, j * 3, none⟩ (.int .i64 (X p j 0))).setCell ⟨gl, j * 3 + 1, none⟩ (.int .i64 (X p j 1))).setCell ⟨gl, j * 3 + 2, none⟩ (.int .i64 (X p j 2))).drew w2.heap.size 29 30 i p K X G2) := (HBj.out.set3 (Nat.ne_of_lt hgb) HGd.out _ _ _ _ _ _).drew
              have HB' : Hid (Below w2.heap.size w2 (((wr.setCell ⟨gl, j * 3, none⟩ (.int .i64 (X p j 0))).setCell ⟨gl, j * 3 + 1, none⟩ (.int .i64 (X p j 1))).setCell ⟨gl, j * 3 + 2, none⟩ (.int .i64 (X p j 2))).drew) := (below_set3 HBl.out (Nat.le_of_lt hgb) _ _ _ _ _ _).drew
              go_wp2_with fail
              go_roundw
              case rel => exact ⟨j + 1, by omega, by go_num, HF', HBu', HB'⟩
              case measure => simp [intOf]; omega
            · have hje : j = K p := by omega
              subst hje
              have d0 := HBj.out.row.cell hlt
              rw [if_neg (by omega)] at d0
              have f0 := HBj.out.row.frozen p
              have HBu' : Hid (Built (wr.setCell ⟨w2.heap.size, p, none⟩ (.slice (some ⟨gl, 0, none⟩) (K p) (K p))) w2.heap.size 29 30 i (p + 1) K X (fun i' => if i' = p then gl else G2 i')) := HBj.out.step HFj.out hgb HGd.out
              have HB' : Hid (Below w2.heap.size w2 (wr.setCell ⟨w2.heap.size, p, none⟩ (.slice (some ⟨gl, 0, none⟩) (K p) (K p)))) := HBl.out.setCell (Nat.le_refl _) _
              go_wp2_with fail
              go_roundw
              case rel => exact ⟨p + 1, _, by omega, by go_num, HBu', HB'⟩
              case measure => simp [intOf]; omega
        · have hpe : p = i := by omega
          subst hpe
          clear hmk2
          go_wp2_with fail
          go_ret2
          exact ⟨s, K, w2.heap.size, G2, rfl, HFa.out, HS.out, HBu.out, HB2.out.trans (HB.out.mono HB2.out.size)⟩
end Go.Proofs.Qxb6617202aMods
