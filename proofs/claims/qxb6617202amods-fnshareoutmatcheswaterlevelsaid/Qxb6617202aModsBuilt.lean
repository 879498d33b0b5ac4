/- Rows of rows that the call itself makes: for seat b6617202aM. -/
import Derived.Test.Qxb6617202aModsAid
namespace Go.Proofs.Qxb6617202aMods
open Go.RowKit Go.Deep
set_option linter.unusedVariables false

/-- What 'make' lays for k elements of three ints. -/
def cells3 (k : Nat) : Array Value := madeCells #[.int .i64 0, .int .i64 0, .int .i64 0] (k * 3)

theorem make3_42 (k : Nat) (hk : k ≤ 65536) (w : World) : (Instr.makeSlice 42 (.int .i64 (k : Int)) (.int .i64 (k : Int))).run Trym.prog w = .ok (.slice (some ⟨w.heap.size, 0, none⟩) k k) (w.alloc (.cells (cells3 k) 44)) := by
  obtain ⟨i0, hi, hz0, hz1, hz2⟩ := info_parts Trym.info44
  have h := run_make (P := Trym.prog) w 42 44 i0 _ Trym.underlying42 hi hz0 .i64 .i64 k k (by omega) (by omega) (by rw [hz2]; omega) (by omega)
  simp only [Int.toNat_natCast, hz1] at h
  exact h
theorem make3_29 (k : Nat) (hk : k ≤ 65536) (w : World) : (Instr.makeSlice 29 (.int .i64 (k : Int)) (.int .i64 (k : Int))).run Trym.prog w = .ok (.slice (some ⟨w.heap.size, 0, none⟩) k k) (w.alloc (.cells (cells3 k) 30)) := by
  obtain ⟨i0, hi, hz0, hz1, hz2⟩ := info_parts Trym.info30
  have h := run_make (P := Trym.prog) w 29 30 i0 _ Trym.underlying29 hi hz0 .i64 .i64 k k (by omega) (by omega) (by rw [hz2]; omega) (by omega)
  simp only [Int.toNat_natCast, hz1] at h
  exact h

theorem rowIs_made3 (w : World) (k t : Nat) : (w.alloc (.cells (cells3 k) t)).rowIs w.heap.size t (k * 3) (fun _ => .int .i64 0) := by
  refine ⟨cells3 k, heap_alloc_new _ _, by simp [cells3, size_madeCells], fun i hi => ?_⟩
  unfold cells3 madeCells
  have h3 : i % 3 < 3 := Nat.mod_lt _ (by decide)
  simp [hi]
  rcases (show i % 3 = 0 ∨ i % 3 = 1 ∨ i % 3 = 2 by omega) with h | h | h <;> simp [h]

/-- n rows at gb: the first i are laid, the i'-th at 'G i'', each its triples. -/
structure Built (w : World) (gb te ti n i : Nat) (K : Nat → Nat) (X : Nat → Nat → Nat → Int) (G : Nat → Nat) : Prop where
  row : w.rowIs gb te n (fun i' => if i' < i then .slice (some ⟨G i', 0, none⟩) (K i') (K i') else .slice none 0 0)
  inner : ∀ i', i' < i → w.rowIs (G i') ti (K i' * 3) (fun m => .int .i64 (X i' (m / 3) (m % 3))) ∧ gb < G i'

/-- A row of triples, the first j laid. -/
def Filled (w : World) (gl ti k j : Nat) (X : Nat → Nat → Int) : Prop := w.rowIs gl ti (k * 3) (fun m => if m < j * 3 then .int .i64 (X (m / 3) (m % 3)) else .int .i64 0)

theorem Built.below {w w' : World} {gb te ti n i : Nat} {K : Nat → Nat} {X : Nat → Nat → Nat → Int} {G : Nat → Nat} (h : Built w gb te ti n i K X G) (hb : Below w.heap.size w w') : Built w' gb te ti n i K X G :=
  ⟨h.row.of_block (hb.block _ h.row.lt), fun i' hi' => ⟨(h.inner i' hi').1.of_block (hb.block _ (h.inner i' hi').1.lt), (h.inner i' hi').2⟩⟩
theorem Built.setOther {w : World} {gb te ti n i : Nat} {K : Nat → Nat} {X : Nat → Nat → Nat → Int} {G : Nat → Nat} (h : Built w gb te ti n i K X G) {a : Addr} (h1 : gb ≠ a.block) (h2 : ∀ i', i' < i → G i' ≠ a.block) (v : Value) : Built (w.setCell a v) gb te ti n i K X G :=
  ⟨h.row.setOther h1 v, fun i' hi' => ⟨(h.inner i' hi').1.setOther (h2 i' hi') v, (h.inner i' hi').2⟩⟩

theorem Built.start {w : World} {te n : Nat} {ti : Nat} {K : Nat → Nat} {X : Nat → Nat → Nat → Int} {G : Nat → Nat} : Built (w.alloc (.cells (madeCells #[.slice none 0 0] n) te)) w.heap.size te ti n 0 K X G :=
  ⟨(World.rowIs_made w (.slice none 0 0) n te).congr (by intro i hi; simp), fun i' hi' => by omega⟩

/-- A new row of zeros. -/
theorem Filled.start (w : World) (k ti : Nat) (X : Nat → Nat → Int) : Filled (w.alloc (.cells (cells3 k) ti)) w.heap.size ti k 0 X :=
  (rowIs_made3 w k ti).congr (by intro i hi; simp)

/-- A triple is laid. -/
theorem Filled.step {w : World} {gl ti k j : Nat} {X : Nat → Nat → Int} (h : Filled w gl ti k j X) :
    Filled (((w.setCell ⟨gl, j * 3, none⟩ (.int .i64 (X j 0))).setCell ⟨gl, j * 3 + 1, none⟩ (.int .i64 (X j 1))).setCell ⟨gl, j * 3 + 2, none⟩ (.int .i64 (X j 2))) gl ti k (j + 1) X := by
  refine (((World.rowIs.set h (j * 3) _).set (j * 3 + 1) _).set (j * 3 + 2) _).congr ?_
  intro i hi
  by_cases h0 : i = j * 3
  · subst h0
    rw [if_neg (by omega), if_neg (by omega), if_pos rfl, if_pos (by omega), show j * 3 / 3 = j by omega, show j * 3 % 3 = 0 by omega]
  by_cases h1 : i = j * 3 + 1
  · subst h1
    rw [if_neg (by omega), if_pos rfl, if_pos (by omega), show (j * 3 + 1) / 3 = j by omega, show (j * 3 + 1) % 3 = 1 by omega]
  by_cases h2 : i = j * 3 + 2
  · subst h2
    rw [if_pos rfl, if_pos (by omega), show (j * 3 + 2) / 3 = j by omega, show (j * 3 + 2) % 3 = 2 by omega]
  rw [if_neg h2, if_neg h1, if_neg h0]
  by_cases h3 : i < j * 3
  · rw [if_pos h3, if_pos (by omega)]
  · rw [if_neg h3, if_neg (by omega)]

/-- The filled row is laid into its place. -/
theorem Built.step {w : World} {gb te ti n i gl : Nat} {K : Nat → Nat} {X : Nat → Nat → Nat → Int} {G : Nat → Nat} (h : Built w gb te ti n i K X G) (hf : Filled w gl ti (K i) (K i) (X i)) (hgl : gb < gl) (hd : ∀ i', i' < i → G i' ≠ gl) :
    Built (w.setCell ⟨gb, i, none⟩ (.slice (some ⟨gl, 0, none⟩) (K i) (K i))) gb te ti n (i + 1) K X (fun i' => if i' = i then gl else G i') := by
  refine ⟨(h.row.set i _).congr ?_, ?_⟩
  · intro i' hi'
    by_cases e : i' = i
    · subst e; simp
    · rw [if_neg e]
      have : (i' < i + 1) = (i' < i) := by simp; omega
      simp only [this, if_neg e]
  · intro i' hi'
    by_cases e : i' = i
    · subst e
      simp only [if_true]
      refine ⟨(World.rowIs.congr hf ?_).setOther (by exact Nat.ne_of_gt hgl) _, hgl⟩
      intro m hm
      rw [if_pos hm]
    · simp only [if_neg e]
      obtain ⟨h1, h2⟩ := h.inner i' (by omega)
      exact ⟨h1.setOther (by exact Nat.ne_of_gt h2) _, h2⟩

/-- What was built reads as rows of triples. -/
theorem Built.rd {w : World} {gb te ti n : Nat} {K : Nat → Nat} {X : Nat → Nat → Nat → Int} {G : Nat → Nat} (h : Built w gb te ti n n K X G) : Rd w (some ⟨gb, 0, none⟩) n (fun i => some ⟨G i, 0, none⟩) K K X := by
  refine ⟨fun i hi => ⟨gb, 0, rfl, ?_⟩, fun i hi j hj => ⟨G i, 0, rfl, fun c hc => ?_⟩⟩
  · rw [Nat.zero_add, h.row.cell hi, if_pos hi]
  · rw [Nat.zero_add, (h.inner i hi).1.cell (i := j * 3 + c) (by omega), show (j * 3 + c) / 3 = j by omega, show (j * 3 + c) % 3 = c by omega]
theorem Built.drew {w : World} {gb te ti n i : Nat} {K : Nat → Nat} {X : Nat → Nat → Nat → Int} {G : Nat → Nat} (h : Built w gb te ti n i K X G) : Built w.drew gb te ti n i K X G := ⟨h.row, h.inner⟩
theorem Filled.drew {w : World} {gl ti k j : Nat} {X : Nat → Nat → Int} (h : Filled w gl ti k j X) : Filled w.drew gl ti k j X := h
/-- A triple laid into a row apart. -/
theorem Built.set3 {w : World} {gb te ti n i : Nat} {K : Nat → Nat} {X : Nat → Nat → Nat → Int} {G : Nat → Nat} (h : Built w gb te ti n i K X G) {gl : Nat} (h1 : gb ≠ gl) (h2 : ∀ i', i' < i → G i' ≠ gl) (o1 o2 o3 : Nat) (v1 v2 v3 : Value) :
    Built (((w.setCell ⟨gl, o1, none⟩ v1).setCell ⟨gl, o2, none⟩ v2).setCell ⟨gl, o3, none⟩ v3) gb te ti n i K X G :=
  ((h.setOther (a := ⟨gl, o1, none⟩) h1 h2 v1).setOther (a := ⟨gl, o2, none⟩) h1 h2 v2).setOther (a := ⟨gl, o3, none⟩) h1 h2 v3
theorem below_set3 {B : Nat} {w0 w : World} (h : Below B w0 w) {gl : Nat} (hg : B ≤ gl) (o1 o2 o3 : Nat) (v1 v2 v3 : Value) :
    Below B w0 (((w.setCell ⟨gl, o1, none⟩ v1).setCell ⟨gl, o2, none⟩ v2).setCell ⟨gl, o3, none⟩ v3) :=
  ((h.setCell (p := ⟨gl, o1, none⟩) hg v1).setCell (p := ⟨gl, o2, none⟩) hg v2).setCell (p := ⟨gl, o3, none⟩) hg v3

/-- A row of shares reads as rows of triples. -/
theorem rd_shares {w : World} {g gs n : Nat} {A : Nat → Option Addr} {L C K : Nat → Nat} {X : Nat → Nat → Nat → Int} (h : Rd w (some ⟨g, 0, none⟩) n A L C X) (hK : ∀ i, i < n → K i ≤ L i) (hs : w.rowIs gs 42 n (fun i => shv (A i) (C i) (K i))) :
    Rd w (some ⟨gs, 0, none⟩) n (fun i => if K i = 0 then none else A i) K (fun i => if K i = 0 then 0 else C i) X := by
  refine ⟨fun i hi => ⟨gs, 0, rfl, ?_⟩, fun i hi j hj => ?_⟩
  · rw [Nat.zero_add, hs.cell hi]
    unfold shv
    by_cases e : K i = 0
    · simp [e]
    · simp [e]
  · obtain ⟨b, o, e, hc⟩ := h.inner i hi j (Nat.lt_of_lt_of_le hj (hK i hi))
    exact ⟨b, o, by rw [if_neg (by omega)]; exact e, hc⟩
end Go.Proofs.Qxb6617202aMods
