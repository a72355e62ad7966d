/-
  The proof of the row over its walk (the frame: the guide's own way).
-/
import Derived.Test.Qxb6604061aRows
import Derived.Test.Qxb6604061aLaw3
import Derived.WalkKit
import Derived.ProofKit
import Derived.OpenShut
import Derived.ShutString
import Derived.ChangeOld
import Derived.Below
import Derived.SliceStrings
import Derived.Test.Qxb6604061aOpen
namespace Go.Proofs.Qxb6604061a.fnCompleteJoinsPredecessorClocks
open Go.ChangeShapes Go.WideShapes Go.ChangeAt Go.RowKit
open Go.ChangeMaps (open_string shut_string)
set_option linter.unusedVariables false

theorem own : ownKnob Try.prog.godebug = none := by kernel_rfl
theorem laidOut : laidOutB Try.prog = true := by kernel_rfl


set_option maxRecDepth 100000 in
theorem lifted (os : Os) (started : os.Started) (H : Type) (enc : TypeId × Value → H) :
    ReturnsInHanded {} Try.checked os 3 .any (Rows.fnCompleteJoinsPredecessorClocksSpec.pre6 enc Try.prog Try.f3 Rows.fnCompleteJoinsPredecessorClocksRow.domain false) (Rows.fnCompleteJoinsPredecessorClocksSpec.post enc Try.prog Try.f3 false true false false) := by
  refine returnsInHanded_of_change (C := Try.checked) own started (by kernel_rfl) Try.func3
    (ChangeSpec.witness6 (enc := enc) (C := Try.checked) false ⟨#[], #[.slice none 0 0, .slice none 0 0, .int .i64 0, .slice none 0 0, .slice none 0 0, .slice none 0 0, .slice none 0 0, .slice none 0 0, .slice none 0 0, .slice none 0 0], []⟩ 8 (by kernel_rfl) (by kernel_rfl) (by kernel_rfl) (by kernel_rfl)) ?_
  intro W base args ds gs before hval0 hW hcnd _
  have hval : ∀ (j : Nat) t v, Try.f3.params[j]? = some t → args[j]? = some v → Value.okWide Try.prog W .any base t v := hval0
  have hW' := hW
  obtain ⟨p, q, hA0, hV, rfl, hfz, hnd⟩ := hW
  have hA : DataW.TrodAll enc Try.prog W 0 (fun _ => true) true Try.f3.params.toList args.toList ds p := hA0
  rw [Try.params3] at hA hval
  obtain ⟨v0, vs0, d0, ds0, p0, q0, hargs, rfl, rfl, h0, r0⟩ := trodAll_cons hA
  obtain ⟨v1, vs1, d1, ds1, p1, q1, rfl, rfl, rfl, h1, r1⟩ := trodAll_cons r0
  obtain ⟨v2, vs2, d2, ds2, p2, q2, rfl, rfl, rfl, h2, r2⟩ := trodAll_cons r1
  obtain ⟨v3, vs3, d3, ds3, p3, q3, rfl, rfl, rfl, h3, r3⟩ := trodAll_cons r2
  obtain ⟨v4, vs4, d4, ds4, p4, q4, rfl, rfl, rfl, h4, r4⟩ := trodAll_cons r3
  obtain ⟨v5, vs5, d5, ds5, p5, q5, rfl, rfl, rfl, h5, r5⟩ := trodAll_cons r4
  obtain ⟨v6, vs6, d6, ds6, p6, q6, rfl, rfl, rfl, h6, r6⟩ := trodAll_cons r5
  obtain ⟨v7, vs7, d7, ds7, p7, q7, rfl, rfl, rfl, h7, r7⟩ := trodAll_cons r6
  obtain ⟨v8, vs8, d8, ds8, p8, q8, rfl, rfl, rfl, h8, r8⟩ := trodAll_cons r7
  obtain ⟨v9, vs9, d9, ds9, p9, q9, rfl, rfl, rfl, h9, r9⟩ := trodAll_cons r8
  obtain ⟨rfl, rfl, rfl⟩ := trodAll_nil r9
  obtain rfl : args = #[v0, v1, v2, v3, v4, v5, v6, v7, v8, v9] := by cases args; simp_all
  obtain ⟨rfl, rfl⟩ := trodVars_none hV
  obtain ⟨a0, len0, cap0, rfl⟩ := okWide_slice Try.underlying22 (hval 0 22 v0 rfl rfl)
  have k0 := h0
  have lt0 : ∀ x ∈ p0, x.block < W.heap.size := by obtain ⟨m, hm⟩ := k0; exact DataW.trod_lt m _ _ _ hm
  obtain ⟨z0, w0⟩ : ∃ z, SR W a0 len0 (sv z) := by
    obtain ⟨fuel, hf⟩ := h0
    exact isS (cap := cap0) hf (by simp [Value.cells])
  obtain ⟨a1, len1, cap1, rfl⟩ := okWide_slice Try.underlying23 (hval 1 23 v1 rfl rfl)
  have k1 := h1
  have lt1 : ∀ x ∈ p1, x.block < W.heap.size := by obtain ⟨m, hm⟩ := k1; exact DataW.trod_lt m _ _ _ hm
  obtain ⟨z1, w1⟩ : ∃ z, SR W a1 len1 (bv z) := by
    obtain ⟨fuel, hf⟩ := h1
    exact isB (cap := cap1) hf (by simp [Value.cells])
  obtain ⟨x2, rfl, rfl, rfl, wx2⟩ := open_int Try.underlying3 (hval 2 3 v2 rfl rfl) h2
  obtain ⟨a3, len3, cap3, rfl⟩ := okWide_slice Try.underlying24 (hval 3 24 v3 rfl rfl)
  have k3 := h3
  have lt3 : ∀ x ∈ p3, x.block < W.heap.size := by obtain ⟨m, hm⟩ := k3; exact DataW.trod_lt m _ _ _ hm
  obtain ⟨z3, w3⟩ : ∃ z, SR W a3 len3 (iv z) ∧ ∀ i, i < len3 → -2147483648 ≤ z i ∧ z i ≤ 2147483647 := by
    obtain ⟨fuel, hf⟩ := h3
    exact isI (cap := cap3) hf (by simp [Value.cells])
  obtain ⟨a4, len4, cap4, rfl⟩ := okWide_slice Try.underlying24 (hval 4 24 v4 rfl rfl)
  have k4 := h4
  have lt4 : ∀ x ∈ p4, x.block < W.heap.size := by obtain ⟨m, hm⟩ := k4; exact DataW.trod_lt m _ _ _ hm
  obtain ⟨z4, w4⟩ : ∃ z, SR W a4 len4 (iv z) ∧ ∀ i, i < len4 → -2147483648 ≤ z i ∧ z i ≤ 2147483647 := by
    obtain ⟨fuel, hf⟩ := h4
    exact isI (cap := cap4) hf (by simp [Value.cells])
  obtain ⟨a5, len5, cap5, rfl⟩ := okWide_slice Try.underlying24 (hval 5 24 v5 rfl rfl)
  have k5 := h5
  have lt5 : ∀ x ∈ p5, x.block < W.heap.size := by obtain ⟨m, hm⟩ := k5; exact DataW.trod_lt m _ _ _ hm
  obtain ⟨z5, w5⟩ : ∃ z, SR W a5 len5 (iv z) ∧ ∀ i, i < len5 → -2147483648 ≤ z i ∧ z i ≤ 2147483647 := by
    obtain ⟨fuel, hf⟩ := h5
    exact isI (cap := cap5) hf (by simp [Value.cells])
  obtain ⟨a6, len6, cap6, rfl⟩ := okWide_slice Try.underlying24 (hval 6 24 v6 rfl rfl)
  have k6 := h6
  have lt6 : ∀ x ∈ p6, x.block < W.heap.size := by obtain ⟨m, hm⟩ := k6; exact DataW.trod_lt m _ _ _ hm
  obtain ⟨z6, w6⟩ : ∃ z, SR W a6 len6 (iv z) ∧ ∀ i, i < len6 → -2147483648 ≤ z i ∧ z i ≤ 2147483647 := by
    obtain ⟨fuel, hf⟩ := h6
    exact isI (cap := cap6) hf (by simp [Value.cells])
  obtain ⟨a7, len7, cap7, rfl⟩ := okWide_slice Try.underlying24 (hval 7 24 v7 rfl rfl)
  have k7 := h7
  have lt7 : ∀ x ∈ p7, x.block < W.heap.size := by obtain ⟨m, hm⟩ := k7; exact DataW.trod_lt m _ _ _ hm
  obtain ⟨z7, w7⟩ : ∃ z, SR W a7 len7 (iv z) ∧ ∀ i, i < len7 → -2147483648 ≤ z i ∧ z i ≤ 2147483647 := by
    obtain ⟨fuel, hf⟩ := h7
    exact isI (cap := cap7) hf (by simp [Value.cells])
  obtain ⟨a8, len8, cap8, rfl⟩ := okWide_slice Try.underlying24 (hval 8 24 v8 rfl rfl)
  have k8 := h8
  have lt8 : ∀ x ∈ p8, x.block < W.heap.size := by obtain ⟨m, hm⟩ := k8; exact DataW.trod_lt m _ _ _ hm
  obtain ⟨z8, w8⟩ : ∃ z, SR W a8 len8 (iv z) ∧ ∀ i, i < len8 → -2147483648 ≤ z i ∧ z i ≤ 2147483647 := by
    obtain ⟨fuel, hf⟩ := h8
    exact isI (cap := cap8) hf (by simp [Value.cells])
  obtain ⟨a9, len9, cap9, rfl⟩ := okWide_slice Try.underlying24 (hval 9 24 v9 rfl rfl)
  have k9 := h9
  have lt9 : ∀ x ∈ p9, x.block < W.heap.size := by obtain ⟨m, hm⟩ := k9; exact DataW.trod_lt m _ _ _ hm
  obtain ⟨z9, w9⟩ : ∃ z, SR W a9 len9 (iv z) ∧ ∀ i, i < len9 → -2147483648 ≤ z i ∧ z i ≤ 2147483647 := by
    obtain ⟨fuel, hf⟩ := h9
    exact isI (cap := cap9) hf (by simp [Value.cells])
  clear hA0 hval0
  refine (law3 a0 a1 a3 a4 a5 a6 a7 a8 a9 len0 cap0 len1 cap1 len3 cap3 len4 cap4 len5 cap5 len6 cap6 len7 cap7 len8 cap8 len9 cap9 x2 z0 z1 z3 z4 z5 z6 z7 z8 z9 W w0.2.2 w1.2.2 w3.1.2.2 w4.1.2.2 w5.1.2.2 w6.1.2.2 w7.1.2.2 w8.1.2.2 w9.1.2.2 w0.1 w1.1 w3.1.1 w4.1.1 w5.1.1 w6.1.1 w7.1.1 w8.1.1 w9.1.1 w0.2.1 w1.2.1 w3.1.2.1 w4.1.2.1 w5.1.2.1 w6.1.2.1 w7.1.2.1 w8.1.2.1 w9.1.2.1 w3.2 w5.2 w6.2 w7.2 w9.2).mono fun e W' ⟨he, bel⟩ => ?_
  subst he
  exact ⟨_, rfl, _, _, _, [], _, [], hW', trodAll_mk1 (shut_bool Try.underlying4 _), (trodAll_cons_mk (Below.trod laidOut (by kernel_rfl) (of_decide_eq_true (by kernel_rfl)) k0 bel lt0) (trodAll_cons_mk (Below.trod laidOut (by kernel_rfl) (of_decide_eq_true (by kernel_rfl)) k1 bel lt1) (trodAll_cons_mk (shut_int Try.underlying3 wx2) (trodAll_cons_mk (Below.trod laidOut (by kernel_rfl) (of_decide_eq_true (by kernel_rfl)) k3 bel lt3) (trodAll_cons_mk (Below.trod laidOut (by kernel_rfl) (of_decide_eq_true (by kernel_rfl)) k4 bel lt4) (trodAll_cons_mk (Below.trod laidOut (by kernel_rfl) (of_decide_eq_true (by kernel_rfl)) k5 bel lt5) (trodAll_cons_mk (Below.trod laidOut (by kernel_rfl) (of_decide_eq_true (by kernel_rfl)) k6 bel lt6) (trodAll_cons_mk (Below.trod laidOut (by kernel_rfl) (of_decide_eq_true (by kernel_rfl)) k7 bel lt7) (trodAll_cons_mk (Below.trod laidOut (by kernel_rfl) (of_decide_eq_true (by kernel_rfl)) k8 bel lt8) (trodAll_cons_mk (Below.trod laidOut (by kernel_rfl) (of_decide_eq_true (by kernel_rfl)) k9 bel lt9) trodAll_mk0)))))))))), rfl, bel.frame _, fun h => by cases h⟩

theorem over : Rows.fnCompleteJoinsPredecessorClocksRow.holds Try.pinned (OpenSpec.ofChange Rows.fnCompleteJoinsPredecessorClocksSpec) :=
  OpenClaim.holds_of_wide 3 Try.f3 rfl rfl rfl rfl rfl rfl rfl ⟨rfl, rfl, rfl, rfl, rfl⟩ rfl rfl rfl rfl rfl (by kernel_rfl) Try.func3 (by kernel_rfl)
    (of_decide_eq_true (by kernel_rfl)) (by unfold Func.isWrapper; first | (rw [if_pos (by decide +kernel)]; kernel_rfl) | (rw [if_neg (by decide +kernel)]; exact ⟨rfl, rfl⟩))
    (fun os started H enc _ => lifted os started H enc)

/-- THE STATEMENT -/
theorem proved : Rows.FnCompleteJoinsPredecessorClocksSaid := over
#print axioms proved
end Go.Proofs.Qxb6604061a.fnCompleteJoinsPredecessorClocks
