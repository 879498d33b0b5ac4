/- 'zzSortInts': the walk. -/
import Derived.Test.Qxb6617202aModsMerge
import Derived.Test.Qxb6617202aModsRows
import Derived.WalkKit
import Derived.WalkSpells
import Derived.WalkLawsBesides
import Derived.Deep.OwnRows
import Derived.Deep.QuietTactic
import Derived.BigQuiet
import Derived.Deep.Cut
import Derived.Deep.CutRange
import Derived.Deep.CutBlock
import Derived.Laws.CopyOwn
namespace Go.Proofs.Qxb6617202aMods
open Go.RowKit Go.Deep
set_option linter.unusedVariables false

theorem Trym.info3s : (Trym.prog.info? 3).map (fun i => (i.zero, i.size, i.bytes)) = some (some (.int .i64 0), 1, 8) := by kernel_rfl
theorem Trym.size3s : (Trym.prog.info? 3).map (·.size) = some 1 := by kernel_rfl

/-- n ints at a. -/
def Ints (w : World) (a : Option Addr) (n : Nat) (Z : Nat → Int) : Prop := ∀ i, i < n → ∃ b off, a = some ⟨b, off, none⟩ ∧ w.cell? ⟨b, off + i, none⟩ = some (.int .i64 (Z i))

theorem Ints.below {w w' : World} {a : Option Addr} {n : Nat} {F : Nat → Int} (h : Ints w a n F) (hb : Below w.heap.size w w') : Ints w' a n F := fun i hi => by
  obtain ⟨b, off, e, hc⟩ := h i hi
  exact ⟨b, off, e, (hb.cell (World.block_lt_of_cell? w _ hc)).trans hc⟩

/-- 'src := make([]int, n); copy(src, a)': the copy, behind the make. -/
theorem copy_ints (w : World) (a : Option Addr) (n cap : Nat) (F : Nat → Int) (h : Ints w a n F) :
    ∃ W, (Builtin.copy_ #[27, 27] 3 #[.slice (some ⟨w.heap.size, 0, none⟩) n n, .slice a n cap]).run Trym.prog (w.alloc (.cells (madeCells #[.int .i64 0] n) 3)) = .ok (.int .i64 n) W ∧
      W.rowIs w.heap.size 3 n (fun j => .int .i64 (F j)) ∧ Below w.heap.size w W := by
  by_cases hn : n = 0
  · subst hn
    exact ⟨_, run_copy_none (P := Trym.prog) _ 27 27 3 3 _ _ 0 0 0 cap Trym.underlying27 Trym.size3s rfl, (World.rowIs_made w (.int .i64 0) 0 3).congr (fun i hi => absurd hi (Nat.not_lt_zero _)), (Below.refl _ _).alloc (Nat.le_refl _) _⟩
  have hg : (w.alloc (.cells (madeCells #[.int .i64 0] n) 3)).heap[w.heap.size]? = some (.cells (madeCells #[.int .i64 0] n) 3 (0, 0)) := heap_alloc_new _ _
  have hsz := size_madeCells #[.int .i64 0] n
  obtain ⟨b, off, rfl, _⟩ := h 0 (by omega)
  have hc : ∀ j, j < n → w.cell? ⟨b, off + j, none⟩ = some (.int .i64 (F j)) := fun j hj => by
    obtain ⟨b', off', e, hc⟩ := h j hj
    obtain ⟨rfl, rfl⟩ : b = b' ∧ off = off' := by simpa using e
    exact hc
  have hb : b < w.heap.size := World.block_lt_of_cell? w _ (hc 0 (by omega))
  obtain ⟨cs, hcs⟩ : ∃ cs, cs = (List.range n).map (fun j => Value.int .i64 (F j)) := ⟨_, rfl⟩
  have hl : cs.length = n := by rw [hcs]; simp
  have hrun := run_copy_row (P := Trym.prog) (w.alloc (.cells (madeCells #[.int .i64 0] n) 3)) 27 27 3 3 w.heap.size 0 n n ⟨b, off, none⟩ n cap (madeCells #[.int .i64 0] n) 3 cs Trym.underlying27 Trym.size3s hg
    (by rw [hl]; exact (Nat.min_self _).symm)
    (by
      intro j v hj
      have hjl : j < n := by
        have := (List.getElem?_eq_some_iff.1 hj).1
        omega
      rw [Addr.add_lit, World.cell?_alloc_lt _ _ _ (by exact hb), hc j hjl]
      rw [hcs] at hj
      simpa [hjl] using hj)
    (by rw [hl, hsz]; omega)
    (by
      intro v hv
      rw [hcs] at hv
      obtain ⟨j, _, rfl⟩ := List.mem_map.1 hv
      rfl)
  rw [hl] at hrun
  have e : ((madeCells #[.int .i64 0] n).toList.take 0 ++ cs ++ (madeCells #[.int .i64 0] n).toList.drop (0 + n)).toArray = cs.toArray := by
    rw [List.drop_of_length_le (by simp [hsz])]
    simp
  rw [e] at hrun
  refine ⟨_, hrun, ⟨cs.toArray, setRow_heap _ _ _ _ 3 _ hg, by simpa using hl, ?_⟩, below_setRow ((Below.refl _ _).alloc (Nat.le_refl _) _) (Nat.le_refl _) _⟩
  intro i hi
  rw [hcs]
  simp [hi]

/-- A row of ints. -/
def Row (w : World) (g n : Nat) (S : Nat → Int) : Prop := w.rowIs g 3 n (fun i => .int .i64 (S i))
theorem Row.set {w : World} {g n k : Nat} {D : Nat → Int} {v : Int} (h : Row w g n D) : Row (w.setCell ⟨g, k, none⟩ (.int .i64 v)) g n (setf D k v) :=
  (World.rowIs.set h k (.int .i64 v)).congr fun i hi => by
    unfold setf
    by_cases e : i = k
    · simp [e]
    · simp [e]
theorem Row.other {w : World} {g n : Nat} {D : Nat → Int} {a : Addr} (h : Row w g n D) (hne : g ≠ a.block) (v : Value) : Row (w.setCell a v) g n D := World.rowIs.setOther h hne v

/-- What 'zzSortInts' leaves. -/
def SortPost (n : Nat) (Z : Nat → Int) (w : World) (e : Ending) (w' : World) : Prop :=
  ∃ g S, e = .returned (.slice (some ⟨g, 0, none⟩) n n) ∧ Row w' g n S ∧ SortedOn S 0 n ∧ (∀ x, In S 0 n x ↔ In Z 0 n x) ∧ Below w.heap.size w w'

set_option maxHeartbeats 2000000 in
set_option maxRecDepth 100000 in
theorem sort12 (a : Option Addr) (n cap : Nat) (Z : Nat → Int) (w : World) (hn : n ≤ 268435456) (hz : Ints w a n Z) :
    Calls Trym.prog 12 #[.slice a n cap] w fun e w' => SortPost n Z w e w' := by
  have hmk := run_make_row' (P := Trym.prog) 27 3 (.int .i64 0) 8 Trym.underlying27 Trym.info3s rfl .i64 .i64 n (by omega) (by omega)
  obtain ⟨W1, hcp, hrow1, hbel1⟩ := copy_ints w a n cap Z hz
  have hz1 : w.heap.size < W1.heap.size := hrow1.lt
  have HR1 : Hid (Row (W1.alloc (.cells (madeCells #[.int .i64 0] n) 3)) w.heap.size n Z) := World.rowIs.alloc hrow1 _
  have HR2 : Hid (Row (W1.alloc (.cells (madeCells #[.int .i64 0] n) 3)) W1.heap.size n (fun _ => 0)) := World.rowIs_made W1 (.int .i64 0) n 3
  have HB1 : Hid (Below w.heap.size w (W1.alloc (.cells (madeCells #[.int .i64 0] n) 3))) := hbel1.alloc (by omega) _
  clear hrow1 hbel1 hz
  go_enter Trym.func12, Trym.ntmps12
  go_wp2_with fail
  generalize W1.alloc (.cells (madeCells #[.int .i64 0] n) 3) = w2 at *
  clear hcp hmk
  go_loopw [4, 5, 6] (fun v4 v5 v6 wr => ∃ (gs gd wd : Nat) (S D : Nat → Int), v4 = .slice (some ⟨gs, 0, none⟩) n n ∧ v5 = .slice (some ⟨gd, 0, none⟩) n n ∧ v6 = .int .i64 wd ∧ 1 ≤ wd ∧ (wd = 1 ∨ wd ≤ 2 * n) ∧ gs ≠ gd ∧ w.heap.size ≤ gs ∧ w.heap.size ≤ gd ∧
      Hid (Row wr gs n S) ∧ Hid (Row wr gd n D) ∧ Hid (Runs S wd n) ∧ Hid (∀ x, In S 0 n x ↔ In Z 0 n x) ∧ Hid (Below w.heap.size w wr))
    (fun _ _ v6 _ => (2 * n + 1 - (intOf v6).toNat))
  case atStart => exact ⟨w.heap.size, W1.heap.size, 1, Z, _, rfl, rfl, rfl, Nat.le_refl _, .inl rfl, Nat.ne_of_lt hz1, Nat.le_refl _, Nat.le_of_lt hz1, HR1, HR2, Runs.one Z n, fun _ => Iff.rfl, HB1⟩
  case round =>
    obtain ⟨gs, gd, wd, S, D, rfl, rfl, rfl, hw1, hw2, hne, hg1, hg2, HS, HD, HRun, HMem, HB⟩ := hrel
    by_cases hlt : wd < n
    · have hw3 : wd ≤ 268435456 := by omega
      go_wp2_with fail
      have HD0 : Hid (Row wr gd n D) := HD
      clear HD
      go_loopw [7] (fun v7 wr => ∃ (lo c : Nat) (D : Nat → Int), v7 = .int .i64 lo ∧ lo ≤ n + 2 * wd ∧ Hid (lo = c * (2 * wd)) ∧ Hid (Row wr gs n S) ∧ Hid (Row wr gd n D) ∧ Hid (Pass S D wd n c) ∧ Hid (Below w.heap.size w wr))
        (fun v7 _ => (n + 2 * wd - (intOf v7).toNat))
      case atStart => exact ⟨0, 0, D, rfl, Nat.zero_le _, by show 0 = 0 * (2 * wd); omega, HS, HD0, Pass.start S D wd n, HB⟩
      case round =>
        obtain ⟨lo, c, D1, rfl, hlo, HC, HS1, HD1, HPs, HB1⟩ := hrel
        by_cases hll : lo < n
        · go_upto_if 39 with fail
          go_cut [8] from 27 to 116 (fun v wc => v = .int .i64 ((min (lo + wd) n : Nat) : Int) ∧ wc = wr)
          case first =>
            by_cases h : lo + wd ≤ n
            · go_wp2_with fail
              go_meet
              case rel => exact ⟨by rw [Nat.min_eq_left h]; go_num, rfl⟩
            · go_wp2_with fail
              go_meet
              case rel => exact ⟨by rw [Nat.min_eq_right (by omega)], rfl⟩
          case rest =>
            obtain ⟨rfl, rfl⟩ := hcut
            have hm1 : min (lo + wd) n ≤ n := Nat.min_le_right _ _
            have hm2 : lo ≤ min (lo + wd) n := by omega
            obtain ⟨mid, hmid⟩ : ∃ mid, min (lo + wd) n = mid := ⟨_, rfl⟩
            have HMid : Hid (min (lo + wd) n = mid) := hmid
            rw [hmid] at hm1 hm2 ⊢
            clear hmid
            go_upto_if 47 with fail
            go_cut [9] from 27 to 116 (fun v wx => v = .int .i64 ((min (lo + 2 * wd) n : Nat) : Int) ∧ wx = wc)
            case first =>
              by_cases h : lo + 2 * wd ≤ n
              · go_wp2_with fail
                go_meet
                case rel => exact ⟨by rw [Nat.min_eq_left h]; go_num, rfl⟩
              · go_wp2_with fail
                go_meet
                case rel => exact ⟨by rw [Nat.min_eq_right (by omega)], rfl⟩
            case rest =>
              obtain ⟨rfl, rfl⟩ := hcut
              have hh1 : min (lo + 2 * wd) n ≤ n := Nat.min_le_right _ _
              have hh2 : mid ≤ min (lo + 2 * wd) n := by have := HMid.out; omega
              obtain ⟨hi, hhi⟩ : ∃ hi, min (lo + 2 * wd) n = hi := ⟨_, rfl⟩
              have HHi : Hid (min (lo + 2 * wd) n = hi) := hhi
              rw [hhi] at hh1 hh2 ⊢
              clear hhi
              have HS1' : Hid (SortedOn S lo mid) := by
                have h := HRun.out (2 * c)
                rw [show 2 * c * wd = lo by rw [HC.out, Nat.mul_comm 2 c, Nat.mul_assoc], HMid.out] at h
                exact h
              have HS2' : Hid (SortedOn S mid hi) := by
                by_cases hq : lo + wd ≤ n
                · have h := HRun.out (2 * c + 1)
                  rw [show (2 * c + 1) * wd = lo + wd by rw [HC.out, Nat.succ_mul, Nat.mul_comm 2 c, Nat.mul_assoc], show lo + wd + wd = lo + 2 * wd by omega, HHi.out] at h
                  have hq2 := HMid.out
                  rw [Nat.min_eq_left hq] at hq2
                  rw [hq2] at h
                  exact h
                · have h1 := HMid.out
                  intro p q a1 a2 a3
                  omega
              go_wp2_with fail
              go_loopw [10, 11, 12] (fun v10 v11 v12 wi => ∃ (i j k : Nat) (D : Nat → Int), v10 = .int .i64 i ∧ v11 = .int .i64 j ∧ v12 = .int .i64 k ∧ lo ≤ i ∧ i ≤ mid ∧ mid ≤ j ∧ j ≤ hi ∧ k + mid = i + j ∧ Hid (Merging S D lo mid hi i j k) ∧ Hid (∀ t, t < lo → D t = D1 t) ∧ Hid (Row wi gs n S) ∧ Hid (Row wi gd n D) ∧ Hid (Below w.heap.size w wi))
                (fun v10 v11 _ _ => (mid - (intOf v10).toNat) + (hi - (intOf v11).toNat))
              case atStart => exact ⟨lo, mid, lo, D1, rfl, rfl, rfl, Nat.le_refl _, hm2, Nat.le_refl _, hh2, by omega, Merging.start hm2 hh2, fun _ _ => rfl, HS1, HD1, HB1⟩
              case round =>
                obtain ⟨i, j, k, D, rfl, rfl, rfl, c1, c2, c3, c4, c5, HM, HX, HSr, HDr, HBr⟩ := hrel
                by_cases hc : i < mid ∧ j < hi
                · obtain ⟨hc1, hc2⟩ := hc
                  have ci := World.rowIs.cell HSr.out (i := i) (by omega)
                  have cj := World.rowIs.cell HSr.out (i := j) (by omega)
                  have ck := World.rowIs.cell HDr.out (i := k) (by omega)
                  have fk' := World.rowIs.frozen HDr.out k
                  have q1 : (i : Int) < (n : Int) := by omega
                  have q2 : (j : Int) < (n : Int) := by omega
                  have q3 : (k : Int) < (n : Int) := by omega
                  by_cases hle : S i ≤ S j
                  · have HM2 : Hid (Merging S (setf D k (S i)) lo mid hi (i + 1) j (k + 1)) := HM.out.takeI HS1'.out hc1 (fun q a1 a2 => Int.le_trans hle (HS2'.out j q c3 a1 a2))
                    have HX2 : Hid (∀ t, t < lo → setf D k (S i) t = D1 t) := fun t ht => by rw [setf_lt D _ (by omega)]; exact HX.out t ht
                    go_wp2_with fail
                    go_quiet (fail)
                    have HS3 : Hid (Row ((wr.drewN nq).setCell ⟨gd, k, none⟩ (.int .i64 (S i))) gs n S) := Row.other (a := ⟨gd, k, none⟩) (show Row (wr.drewN nq) gs n S from HSr.out) hne _
                    have HD3 : Hid (Row ((wr.drewN nq).setCell ⟨gd, k, none⟩ (.int .i64 (S i))) gd n (setf D k (S i))) := Row.set (show Row (wr.drewN nq) gd n D from HDr.out)
                    have HB3 : Hid (Below w.heap.size w ((wr.drewN nq).setCell ⟨gd, k, none⟩ (.int .i64 (S i)))) := (below_drewN HBr.out nq).setCell hg2 _
                    go_wp2_with fail
                    go_roundw
                    case rel => exact ⟨i + 1, j, k + 1, _, by go_num, rfl, by go_num, by omega, by omega, by omega, by omega, by omega, HM2, HX2, HS3, HD3, HB3⟩
                    case measure => simp [intOf]; omega
                  · have HM2 : Hid (Merging S (setf D k (S j)) lo mid hi i (j + 1) (k + 1)) := HM.out.takeJ HS2'.out hc2 (fun q a1 a2 => Int.le_trans (Int.le_of_lt (Int.not_le.1 hle)) (HS1'.out i q c1 a1 a2))
                    have HX2 : Hid (∀ t, t < lo → setf D k (S j) t = D1 t) := fun t ht => by rw [setf_lt D _ (by omega)]; exact HX.out t ht
                    go_wp2_with fail
                    go_quiet (fail)
                    have HS3 : Hid (Row ((wr.drewN nq).setCell ⟨gd, k, none⟩ (.int .i64 (S j))) gs n S) := Row.other (a := ⟨gd, k, none⟩) (show Row (wr.drewN nq) gs n S from HSr.out) hne _
                    have HD3 : Hid (Row ((wr.drewN nq).setCell ⟨gd, k, none⟩ (.int .i64 (S j))) gd n (setf D k (S j))) := Row.set (show Row (wr.drewN nq) gd n D from HDr.out)
                    have HB3 : Hid (Below w.heap.size w ((wr.drewN nq).setCell ⟨gd, k, none⟩ (.int .i64 (S j)))) := (below_drewN HBr.out nq).setCell hg2 _
                    go_wp2_with fail
                    go_roundw
                    case rel => exact ⟨i, j + 1, k + 1, _, rfl, by go_num, by go_num, by omega, by omega, by omega, by omega, by omega, HM2, HX2, HS3, HD3, HB3⟩
                    case measure => simp [intOf]; omega
                · have hex : i = mid ∨ j = hi := by omega
                  have HEX : Hid (i = mid ∨ j = hi) := hex
                  clear hex HS1 HD1 HB1
                  by_cases hci : i < mid
                  all_goals
                    first
                    | (have hcd : decide ((i : Int) < (mid : Int)) = true := decide_eq_true (by omega))
                    | (have hcd : decide ((i : Int) < (mid : Int)) = false := decide_eq_false (by omega))
                    go_wp2_with fail
                    clear hcd hc hci
                    go_loopw [10, 12] (fun v10 v12 wi => ∃ (i k : Nat) (D : Nat → Int), v10 = .int .i64 i ∧ v12 = .int .i64 k ∧ lo ≤ i ∧ i ≤ mid ∧ k + mid = i + j ∧ Hid (i = mid ∨ j = hi) ∧ Hid (Merging S D lo mid hi i j k) ∧ Hid (∀ t, t < lo → D t = D1 t) ∧ Hid (Row wi gs n S) ∧ Hid (Row wi gd n D) ∧ Hid (Below w.heap.size w wi))
                      (fun v10 _ _ => (mid - (intOf v10).toNat))
                    case atStart => exact ⟨i, k, D, rfl, rfl, c1, c2, c5, HEX, HM, HX, HSr, HDr, HBr⟩
                    case round =>
                      clear HM HX HSr HDr HBr HEX c1 c2 c5
                      obtain ⟨i, k, D, rfl, rfl, c1, c2, c5, HEX, HM, HX, HSr, HDr, HBr⟩ := hrel
                      by_cases hc : i < mid
                      · have hj : j = hi := by have := HEX.out; omega
                        have ci := World.rowIs.cell HSr.out (i := i) (by omega)
                        have ck := World.rowIs.cell HDr.out (i := k) (by omega)
                        have fk' := World.rowIs.frozen HDr.out k
                        have q1 : (i : Int) < (n : Int) := by omega
                        have q3 : (k : Int) < (n : Int) := by omega
                        have HM2 : Hid (Merging S (setf D k (S i)) lo mid hi (i + 1) j (k + 1)) := HM.out.takeI HS1'.out hc (fun q a1 a2 => absurd a2 (by omega))
                        have HX2 : Hid (∀ t, t < lo → setf D k (S i) t = D1 t) := fun t ht => by rw [setf_lt D _ (by omega)]; exact HX.out t ht
                        have HS3 : Hid (Row (wr.setCell ⟨gd, k, none⟩ (.int .i64 (S i))) gs n S) := Row.other (a := ⟨gd, k, none⟩) HSr.out hne _
                        have HD3 : Hid (Row (wr.setCell ⟨gd, k, none⟩ (.int .i64 (S i))) gd n (setf D k (S i))) := Row.set HDr.out
                        have HB3 : Hid (Below w.heap.size w (wr.setCell ⟨gd, k, none⟩ (.int .i64 (S i)))) := HBr.out.setCell hg2 _
                        have HEX2 : Hid (i + 1 = mid ∨ j = hi) := .inr hj
                        clear hj
                        go_wp2_with fail
                        go_roundw
                        case rel => exact ⟨i + 1, k + 1, _, by go_num, by go_num, by omega, by omega, by omega, HEX2, HM2, HX2, HS3, HD3, HB3⟩
                        case measure => simp [intOf]; omega
                      · have hi0 : i = mid := by omega
                        subst hi0
                        have hk0 : k = j := by omega
                        subst hk0
                        go_wp2_with fail
                        go_loopw [11, 12] (fun v11 v12 wi => ∃ (j k : Nat) (D : Nat → Int), v11 = .int .i64 j ∧ v12 = .int .i64 k ∧ i ≤ j ∧ j ≤ hi ∧ k = j ∧ Hid (Merging S D lo i hi i j k) ∧ Hid (∀ t, t < lo → D t = D1 t) ∧ Hid (Row wi gs n S) ∧ Hid (Row wi gd n D) ∧ Hid (Below w.heap.size w wi))
                          (fun v11 _ _ => (hi - (intOf v11).toNat))
                        case atStart => exact ⟨k, k, D, rfl, rfl, c3, c4, rfl, HM, HX, HSr, HDr, HBr⟩
                        case round =>
                          clear HM HX HSr HDr HBr HEX c3 c4 c5
                          obtain ⟨j, k, D, rfl, rfl, c3, c4, rfl, HM, HX, HSr, HDr, HBr⟩ := hrel
                          by_cases hc2 : k < hi
                          · have cj := World.rowIs.cell HSr.out (i := k) (by omega)
                            have ck := World.rowIs.cell HDr.out (i := k) (by omega)
                            have fk' := World.rowIs.frozen HDr.out k
                            have q3 : (k : Int) < (n : Int) := by omega
                            have HM2 : Hid (Merging S (setf D k (S k)) lo i hi i (k + 1) (k + 1)) := HM.out.takeJ HS2'.out hc2 (fun q a1 a2 => absurd a2 (by omega))
                            have HX2 : Hid (∀ t, t < lo → setf D k (S k) t = D1 t) := fun t ht => by rw [setf_lt D _ (by omega)]; exact HX.out t ht
                            have HS3 : Hid (Row (wr.setCell ⟨gd, k, none⟩ (.int .i64 (S k))) gs n S) := Row.other (a := ⟨gd, k, none⟩) HSr.out hne _
                            have HD3 : Hid (Row (wr.setCell ⟨gd, k, none⟩ (.int .i64 (S k))) gd n (setf D k (S k))) := Row.set HDr.out
                            have HB3 : Hid (Below w.heap.size w (wr.setCell ⟨gd, k, none⟩ (.int .i64 (S k)))) := HBr.out.setCell hg2 _
                            go_wp2_with fail
                            go_roundw
                            case rel => exact ⟨k + 1, k + 1, _, by go_num, by go_num, by omega, by omega, rfl, HM2, HX2, HS3, HD3, HB3⟩
                            case measure => simp [intOf]; omega
                          · have hk1 : k = hi := by omega
                            subst hk1
                            have HP2 : Hid (Pass S D wd n (c + 1)) := by
                              have e1 := HC.out
                              have e2 := HMid.out
                              have e3 := HHi.out
                              refine HPs.out.step (by rw [← e1]; exact hll) (fun t ht => HX.out t (by rw [e1]; exact ht)) ?_
                              rw [← e1, e2, e3]
                              exact HM.out
                            have HC2 : Hid (lo + 2 * wd = (c + 1) * (2 * wd)) := (congrArg (· + 2 * wd) HC.out).trans (Nat.succ_mul c (2 * wd)).symm
                            go_wp2_with fail
                            go_roundw
                            case rel => exact ⟨lo + 2 * wd, c + 1, D, by go_num, by omega, HC2, HSr, HDr, HP2, HBr⟩
                            case measure => simp [intOf]; omega
        · have hdone := HPs.out.done hw1 (by rw [← HC.out]; omega)
          have HRun2 : Hid (Runs D1 (2 * wd) n) := hdone.1
          have HMem2 : Hid (∀ x, In D1 0 n x ↔ In Z 0 n x) := fun x => (hdone.2 x).trans (HMem.out x)
          clear hdone
          go_wp2_with fail
          go_roundw
          case rel => exact ⟨gd, gs, 2 * wd, D1, S, rfl, rfl, by go_num, by omega, by omega, fun e => hne e.symm, hg2, hg1, HD1, HS1, HRun2, HMem2, HB1⟩
          case measure => simp [intOf]; omega
    · go_wp2_with fail
      go_ret
      exact ⟨gs, S, rfl, HS.out, HRun.out.all (by omega), HMem.out, HB.out⟩
end Go.Proofs.Qxb6617202aMods
