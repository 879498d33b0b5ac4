/- 'Rows.FnTroubledAtAnyCutOfFlagsSaid': the frame after the guide's skeleton; the opening of '[]string' and the walk are ours. -/
import Derived.Test.Qxb6617202aModsRows
import Derived.Test.Qxb6617202aModsWalkI
import Derived.WalkKit
import Derived.ProofKit
import Derived.OpenShut
import Derived.ShutString
import Derived.ChangeOld
import Derived.Below
namespace Go.Proofs.Qxb6617202aMods.fnTroubledAtAnyCutOfFlags
open Go.ChangeShapes Go.WideShapes Go.ChangeAt Go.RowKit
open Go.ChangeMaps (open_string shut_string)
set_option linter.unusedVariables false

theorem own : ownKnob Trym.prog.godebug = none := by kernel_rfl
theorem laidOut : laidOutB Trym.prog = true := by kernel_rfl

set_option maxHeartbeats 1000000 in
set_option maxRecDepth 100000 in
theorem lifted (os : Os) (started : os.Started) (H : Type) (enc : TypeId × Value → H) :
    ReturnsInHanded {} Trym.checked os 5 .any (Rows.fnTroubledAtAnyCutOfFlagsSpec.pre6 enc Trym.prog Trym.f5 Rows.fnTroubledAtAnyCutOfFlagsRow.domain false) (Rows.fnTroubledAtAnyCutOfFlagsSpec.post enc Trym.prog Trym.f5 false true false false) := by
  refine returnsInHanded_of_change (C := Trym.checked) own started (by kernel_rfl) Trym.func5
    (ChangeSpec.witness6 (enc := enc) (C := Trym.checked) false ⟨#[], #[.string ByteArray.empty, .string ByteArray.empty, .int .i64 0, .slice none 0 0, .string ByteArray.empty, .int .u64 0, .bool false, .slice none 0 0, .slice none 0 0, .int .i64 0, .int .i64 0], []⟩ 8 (by kernel_rfl) (by kernel_rfl) (by kernel_rfl) (by kernel_rfl)) ?_
  intro W base args ds gs before hval0 hW hcnd _
  have hval : ∀ (j : Nat) t v, Trym.f5.params[j]? = some t → args[j]? = some v → Value.okWide Trym.prog W .any base t v := hval0
  have hW' := hW
  obtain ⟨p, q, hA0, hV, rfl, hfz, hnd⟩ := hW
  have hA : DataW.TrodAll enc Trym.prog W 0 (fun _ => true) true Trym.f5.params.toList args.toList ds p := hA0
  rw [Trym.params5] at hA hval
  obtain ⟨v0, vs0, d0, ds0, p0, q0, hargs, rfl, rfl, h0, r0⟩ := trodAll_cons hA
  obtain ⟨v1, vs1, d1, ds1, p1, q1, rfl, rfl, rfl, h1, r1⟩ := trodAll_cons r0
  obtain ⟨v2, vs2, d2, ds2, p2, q2, rfl, rfl, rfl, h2, r2⟩ := trodAll_cons r1
  obtain ⟨v3, vs3, d3, ds3, p3, q3, rfl, rfl, rfl, h3, r3⟩ := trodAll_cons r2
  obtain ⟨v4, vs4, d4, ds4, p4, q4, rfl, rfl, rfl, h4, r4⟩ := trodAll_cons r3
  obtain ⟨v5, vs5, d5, ds5, p5, q5, rfl, rfl, rfl, h5, r5⟩ := trodAll_cons r4
  obtain ⟨v6, vs6, d6, ds6, p6, q6, rfl, rfl, rfl, h6, r6⟩ := trodAll_cons r5
  obtain ⟨v7, vs7, d7, ds7, p7, q7, rfl, rfl, rfl, h7, r7⟩ := trodAll_cons r6
  obtain ⟨v8, vs8, d8, ds8, p8, q8, rfl, rfl, rfl, h8, r8⟩ := trodAll_cons r7
  obtain ⟨v9, vs9, d9, ds9, p9, q9, rfl, rfl, rfl, h9, r9⟩ := trodAll_cons r8
  obtain ⟨v10, vs10, d10, ds10, p10, q10, rfl, rfl, rfl, h10, r10⟩ := trodAll_cons r9
  obtain ⟨rfl, rfl, rfl⟩ := trodAll_nil r10
  obtain rfl : args = #[v0, v1, v2, v3, v4, v5, v6, v7, v8, v9, v10] := by cases args; simp_all
  obtain ⟨rfl, rfl⟩ := trodVars_none hV
  obtain ⟨s0, rfl, rfl, rfl, z0⟩ := open_string Trym.underlying9 (hval 0 9 v0 rfl rfl) h0
  obtain ⟨s1, rfl, rfl, rfl, z1⟩ := open_string Trym.underlying9 (hval 1 9 v1 rfl rfl) h1
  obtain ⟨x2, rfl, rfl, rfl, z2⟩ := open_int Trym.underlying3 (hval 2 3 v2 rfl rfl) h2
  obtain ⟨a3, n3, c3, rfl⟩ := okWide_slice Trym.underlying33 (hval 3 33 v3 rfl rfl)
  have k3 := h3
  have lt3 : ∀ x ∈ p3, x.block < W.heap.size := by obtain ⟨m, hm⟩ := k3; exact DataW.trod_lt m _ _ _ hm
  obtain ⟨F3, hS3, hn3, hF3, hna3, _⟩ : ∃ F, Strs W a3 n3 F ∧ n3 ≤ 9223372036854775807 ∧ (∀ i, i < n3 → (F i).size ≤ 9223372036854775807) ∧ (a3 = none → n3 = 0 ∧ c3 = 0) ∧ n3 ≤ c3 := by
    obtain ⟨fuel, hf⟩ := h3
    exact open_strs (by simpa [Value.cells] using hf)
  obtain ⟨s4, rfl, rfl, rfl, z4⟩ := open_string Trym.underlying9 (hval 4 9 v4 rfl rfl) h4
  obtain ⟨x5, rfl, rfl, rfl, z5⟩ := open_int Trym.underlying34 (hval 5 34 v5 rfl rfl) h5
  obtain ⟨x6, rfl, rfl, rfl⟩ := open_bool Trym.underlying4 (hval 6 4 v6 rfl rfl) h6
  obtain ⟨a7, n7, c7, rfl⟩ := okWide_slice Trym.underlying33 (hval 7 33 v7 rfl rfl)
  have k7 := h7
  have lt7 : ∀ x ∈ p7, x.block < W.heap.size := by obtain ⟨m, hm⟩ := k7; exact DataW.trod_lt m _ _ _ hm
  obtain ⟨F7, hS7, hn7, hF7, _⟩ : ∃ F, Strs W a7 n7 F ∧ n7 ≤ 9223372036854775807 ∧ (∀ i, i < n7 → (F i).size ≤ 9223372036854775807) ∧ (a7 = none → n7 = 0 ∧ c7 = 0) ∧ n7 ≤ c7 := by
    obtain ⟨fuel, hf⟩ := h7
    exact open_strs (by simpa [Value.cells] using hf)
  obtain ⟨a8, n8, c8, rfl⟩ := okWide_slice Trym.underlying33 (hval 8 33 v8 rfl rfl)
  have k8 := h8
  have lt8 : ∀ x ∈ p8, x.block < W.heap.size := by obtain ⟨m, hm⟩ := k8; exact DataW.trod_lt m _ _ _ hm
  obtain ⟨F8, hS8, hn8, hF8, _⟩ : ∃ F, Strs W a8 n8 F ∧ n8 ≤ 9223372036854775807 ∧ (∀ i, i < n8 → (F i).size ≤ 9223372036854775807) ∧ (a8 = none → n8 = 0 ∧ c8 = 0) ∧ n8 ≤ c8 := by
    obtain ⟨fuel, hf⟩ := h8
    exact open_strs (by simpa [Value.cells] using hf)
  obtain ⟨x9, rfl, rfl, rfl, z9⟩ := open_int Trym.underlying2 (hval 9 2 v9 rfl rfl) h9
  obtain ⟨x10, rfl, rfl, rfl, z10⟩ := open_int Trym.underlying3 (hval 10 3 v10 rfl rfl) h10
  clear hA0 hval0
  refine (cut_in s0 s1 s4 x2 x5 x9 x10 a3 a7 a8 n3 c3 n7 c7 n8 c8 x6 F3 F7 F8 W (by unfold maxLen at z0; exact z0) (by unfold maxLen at z1; exact z1) (by unfold maxLen at z4; exact z4) hn3 hn7 hn8 hna3 hS3 hS7 hS8 hF3 hF7 hF8).mono fun e W' ⟨he, bel⟩ => ?_
  subst he
  exact ⟨_, rfl, _, _, _, [], _, [], hW', trodAll_mk1 (shut_bool Trym.underlying4 _), (trodAll_cons_mk (shut_string Trym.underlying9 z0) (trodAll_cons_mk (shut_string Trym.underlying9 z1) (trodAll_cons_mk (shut_int Trym.underlying3 z2) (trodAll_cons_mk (Below.trod laidOut (by kernel_rfl) (of_decide_eq_true (by kernel_rfl)) k3 bel lt3) (trodAll_cons_mk (shut_string Trym.underlying9 z4) (trodAll_cons_mk (shut_int Trym.underlying34 z5) (trodAll_cons_mk (shut_bool Trym.underlying4 x6) (trodAll_cons_mk (Below.trod laidOut (by kernel_rfl) (of_decide_eq_true (by kernel_rfl)) k7 bel lt7) (trodAll_cons_mk (Below.trod laidOut (by kernel_rfl) (of_decide_eq_true (by kernel_rfl)) k8 bel lt8) (trodAll_cons_mk (shut_int Trym.underlying2 z9) (trodAll_cons_mk (shut_int Trym.underlying3 z10) trodAll_mk0))))))))))), rfl, bel.frame _, fun h => by cases h⟩

theorem over : Rows.fnTroubledAtAnyCutOfFlagsRow.holds Trym.pinned (OpenSpec.ofChange Rows.fnTroubledAtAnyCutOfFlagsSpec) :=
  OpenClaim.holds_of_wide 5 Trym.f5 rfl rfl rfl rfl rfl rfl rfl ⟨rfl, rfl, rfl, rfl, rfl⟩ rfl rfl rfl rfl rfl (by kernel_rfl) Trym.func5 (by kernel_rfl)
    (of_decide_eq_true (by kernel_rfl)) (by unfold Func.isWrapper; first | (rw [if_pos (by decide +kernel)]; kernel_rfl) | (rw [if_neg (by decide +kernel)]; exact ⟨rfl, rfl⟩))
    (fun os started H enc _ => lifted os started H enc)

theorem proved : Rows.FnTroubledAtAnyCutOfFlagsSaid := over
end Go.Proofs.Qxb6617202aMods.fnTroubledAtAnyCutOfFlags
