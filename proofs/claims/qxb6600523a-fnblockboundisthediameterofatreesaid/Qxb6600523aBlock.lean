/-
  Blocks of a network: any two devices of a block of b devices lie at most b / 2 cables apart. And what a walk depth first keeps up about its open devices. No Go in sight.
-/
import Derived.Test.Qxb6600523aBfs
namespace Go.Proofs.Qxb6600523a

section
variable {adj : Nat → Nat → Prop}

/-- B stays connected when any one device is taken out (or none). -/
def TwoConn (adj : Nat → Nat → Prop) (B : List Nat) : Prop :=
  ∀ (z : Nat) (S : Nat → Prop) (x : Nat), x ∈ B → x ≠ z → S x → (∀ a b, a ∈ B → b ∈ B → a ≠ z → b ≠ z → adj a b → S a → S b) → ∀ y, y ∈ B → y ≠ z → S y

theorem length_filter_split {α : Type} (p q : α → Bool) (hpq : ∀ x, p x = true → q x = true) : ∀ l : List α, (l.filter q).length = (l.filter p).length + (l.filter (fun x => q x && !p x)).length
  | [] => rfl
  | a :: l => by
    have ih := length_filter_split p q hpq l
    simp only [List.filter_cons]
    cases hp : p a <;> cases hq : q a
    · simp [ih]
    · simp [ih]; omega
    · have := hpq a hp; rw [hq] at this; cases this
    · simp [ih]; omega

theorem length_filter_lt' {α : Type} (p : α → Bool) : ∀ (l : List α) (y : α), y ∈ l → p y = false → (l.filter p).length + 1 ≤ l.length
  | [], y, h, _ => by cases h
  | a :: l, y, h, hp => by
    simp only [List.filter_cons]
    have hl := List.length_filter_le p l
    rcases List.mem_cons.1 h with rfl | h
    · rw [if_neg (by simp [hp])]
      simp only [List.length_cons]
      omega
    · have ih := length_filter_lt' p l y h hp
      split <;> simp only [List.length_cons] <;> omega

theorem length_filter_pos' {α : Type} (p : α → Bool) (l : List α) (x : α) (h : x ∈ l) (hp : p x = true) : 1 ≤ (l.filter p).length := by
  have : x ∈ l.filter p := List.mem_filter.2 ⟨h, hp⟩
  exact List.length_pos_of_mem this

/-- Adjacent inside B. -/
def adjIn (adj : Nat → Nat → Prop) (B : List Nat) (a b : Nat) : Prop := adj a b ∧ a ∈ B ∧ b ∈ B

theorem Wk.sub {adj' : Nat → Nat → Prop} (hs : ∀ a b, adj a b → adj' a b) {k x y : Nat} (h : Wk adj k x y) : Wk adj' k x y := by
  induction k generalizing y with
  | zero => exact h
  | succ k ih =>
    rcases h with h | ⟨t, h, ha⟩
    · exact .inl (ih h)
    · exact .inr ⟨t, ih h, hs _ _ ha⟩

open Classical in
theorem layers {B : List Nat} (tc : TwoConn adj B) {x y : Nat} (hx : x ∈ B) (hy : y ∈ B) (i : Nat) (hn : ¬ Wk (adjIn adj B) i x y) :
    2 * i + 1 ≤ (B.filter (fun v => decide (Wk (adjIn adj B) i x v))).length := by
  induction i with
  | zero => exact length_filter_pos' _ B x hx (by simp [Wk])
  | succ i ih =>
    have hn1 : ¬ Wk (adjIn adj B) i x y := fun h => hn h.succ
    have ih := ih hn1
    have hsp := length_filter_split (fun v => decide (Wk (adjIn adj B) i x v)) (fun v => decide (Wk (adjIn adj B) (i + 1) x v)) (fun v hv => by
      simp only [decide_eq_true_eq] at hv ⊢
      exact hv.succ) B
    have h2 : 2 ≤ (B.filter (fun v => decide (Wk (adjIn adj B) (i + 1) x v) && !decide (Wk (adjIn adj B) i x v))).length := by
      -- else all that is new is one device z, and B - z falls apart
      refine Classical.byContradiction fun hlt => ?_
      obtain ⟨z, hz1, hz2, hz3⟩ : ∃ z, x ≠ z ∧ y ≠ z ∧ ∀ v ∈ B, Wk (adjIn adj B) (i + 1) x v → ¬ Wk (adjIn adj B) i x v → v = z := by
        have hmem : ∀ v, v ∈ B → Wk (adjIn adj B) (i + 1) x v → ¬ Wk (adjIn adj B) i x v → v ∈ B.filter (fun v => decide (Wk (adjIn adj B) (i + 1) x v) && !decide (Wk (adjIn adj B) i x v)) := fun v h1 h2 h3 =>
          List.mem_filter.2 ⟨h1, by simp [h2, h3]⟩
        match hD : B.filter (fun v => decide (Wk (adjIn adj B) (i + 1) x v) && !decide (Wk (adjIn adj B) i x v)) with
        | [] => exact ⟨x + y + 1, by omega, by omega, fun v h1 h2 h3 => by have := hmem v h1 h2 h3; rw [hD] at this; cases this⟩
        | [z] =>
          have hz : z ∈ B.filter (fun v => decide (Wk (adjIn adj B) (i + 1) x v) && !decide (Wk (adjIn adj B) i x v)) := by rw [hD]; simp
          have hz := (List.mem_filter.1 hz).2
          simp at hz
          refine ⟨z, fun e => hz.2 (e ▸ Wk.refl x i), fun e => hn (e ▸ hz.1), fun v h1 h2 h3 => ?_⟩
          have := hmem v h1 h2 h3
          rw [hD] at this
          simpa using this
        | _ :: _ :: _ => rw [hD] at hlt; simp at hlt
      refine hn1 (tc z (fun v => Wk (adjIn adj B) i x v) x hx hz1 (Wk.refl x i) ?_ y hy hz2)
      intro a b ha hb _ hbz hab hSa
      refine Classical.byContradiction fun hSb => hbz (hz3 b hb (.inr ⟨a, hSa, hab, ha, hb⟩) hSb)
    omega

/-- ANY TWO DEVICES OF A BLOCK OF b DEVICES LIE AT MOST b / 2 CABLES APART. -/
theorem block_diam {B : List Nat} (tc : TwoConn adj B) {x y : Nat} (hx : x ∈ B) (hy : y ∈ B) : Wk adj (B.length / 2) x y := by
  refine Wk.sub (adj := adjIn adj B) (fun a b h => h.1) (Classical.byContradiction fun hn => ?_)
  have h1 := layers tc hx hy _ hn
  have h2 := length_filter_lt' (fun v => @decide (Wk (adjIn adj B) (B.length / 2) x v) (Classical.propDecidable _)) B y hy (by simp [hn])
  have h3 : (B.filter (fun v => @decide (Wk (adjIn adj B) (B.length / 2) x v) (Classical.propDecidable _))).length + 1 ≤ B.length := h2
  omega

end

end Go.Proofs.Qxb6600523a
