import Derived.Test.Qxb6604061aPlain
namespace Go.Proofs.Qxb6604061a

/-- The value x is what the edge p brings for client j. -/
def Eg (C : Nat) (c g : Nat → Int) (k p : Int) (j : Nat) (x : Int) : Prop := (¬ (p < 0 ∨ g p.toNat = k)) ∧ c ((g p.toNat).toNat * C + j) = x

/-- The value x is what operation i brings of its own for client j. -/
def Own (D : Hist) (i j : Nat) (x : Int) : Prop := ordb (D.s i) (D.o i) = true ∧ (j : Int) = D.cl i ∧ D.ix i = x

section
variable {D : Hist} {C : Nat} {c g : Nat → Int} {k : Int}

theorem je_le (p : Int) (v : Nat → Int) (j : Nat) : v j ≤ je C c g k p v j := by
  unfold je
  split
  · exact Int.le_refl _
  · exact Int.le_max_left _ _

theorem je_eg (p : Int) (v : Nat → Int) (j : Nat) (x : Int) (h : Eg C c g k p j x) : x ≤ je C c g k p v j := by
  unfold je
  rw [if_neg h.1, ← h.2]
  exact Int.le_max_right _ _

theorem je_cases (p : Int) (v : Nat → Int) (j : Nat) (x : Int) (h : je C c g k p v j = x) : v j = x ∨ Eg C c g k p j x := by
  unfold je at h
  by_cases hp : p < 0 ∨ g p.toNat = k
  · rw [if_pos hp] at h; exact .inl h
  · rw [if_neg hp] at h
    have h' : max (v j) (c ((g p.toNat).toNat * C + j)) = x := h
    by_cases e : v j = x
    · exact .inl e
    · exact .inr ⟨hp, by omega⟩

theorem jo_le (i : Nat) (v : Nat → Int) (j : Nat) : v j ≤ jo D i v j := by
  unfold jo
  split
  · show v j ≤ if (j : Int) = D.cl i then max (v j) (D.ix i) else v j
    split <;> omega
  · exact Int.le_refl _

theorem jo_own (i : Nat) (v : Nat → Int) (j : Nat) (x : Int) (h : Own D i j x) : x ≤ jo D i v j := by
  unfold jo
  rw [if_pos h.1]
  show x ≤ if (j : Int) = D.cl i then max (v j) (D.ix i) else v j
  rw [if_pos h.2.1]
  have := h.2.2
  omega

theorem jo_cases (i : Nat) (v : Nat → Int) (j : Nat) (x : Int) (h : jo D i v j = x) : v j = x ∨ Own D i j x := by
  unfold jo at h
  by_cases ho : ordb (D.s i) (D.o i) = true
  · rw [if_pos ho] at h
    have h' : (if (j : Int) = D.cl i then max (v j) (D.ix i) else v j) = x := h
    by_cases hc : (j : Int) = D.cl i
    · rw [if_pos hc] at h'
      by_cases e : v j = x
      · exact .inl e
      · exact .inr ⟨ho, hc, by omega⟩
    · rw [if_neg hc] at h'; exact .inl h'
  · rw [if_neg ho] at h; exact .inl h

theorem js_step (mem : Nat → Nat) (t j : Nat) : js D c g k mem t j ≤ js D c g k mem (t + 1) j := by
  show _ ≤ jm D c g k (mem t) (js D c g k mem t) j
  unfold jm
  exact Int.le_trans (je_le _ _ _) (Int.le_trans (je_le _ _ _) (jo_le _ _ _))

theorem js_mono (mem : Nat → Nat) (j t : Nat) : ∀ u, t ≤ u → js D c g k mem t j ≤ js D c g k mem u j
  | 0, h => by rw [Nat.le_zero.1 h]; exact Int.le_refl _
  | u + 1, h => by
    by_cases e : t = u + 1
    · rw [e]; exact Int.le_refl _
    · exact Int.le_trans (js_mono mem j t u (by omega)) (js_step mem u j)

theorem js_nonneg (mem : Nat → Nat) (m j : Nat) : 0 ≤ js D c g k mem m j := js_mono (D := D) (c := c) (g := g) (k := k) mem j 0 m (Nat.zero_le _)

theorem js_own (mem : Nat → Nat) (m t j : Nat) (ht : t < m) (x : Int) (h : Own D (mem t) j x) : x ≤ js D c g k mem m j :=
  Int.le_trans (by show x ≤ jm D c g k (mem t) (js D c g k mem t) j; unfold jm; exact jo_own _ _ _ _ h) (js_mono mem j (t + 1) m ht)

theorem js_be (mem : Nat → Nat) (m t j : Nat) (ht : t < m) (x : Int) (h : Eg D.C c g k (D.be (mem t)) j x) : x ≤ js D c g k mem m j :=
  Int.le_trans (by show x ≤ jm D c g k (mem t) (js D c g k mem t) j; unfold jm; exact Int.le_trans (je_eg _ _ _ _ h) (Int.le_trans (je_le _ _ _) (jo_le _ _ _))) (js_mono mem j (t + 1) m ht)

theorem js_so (mem : Nat → Nat) (m t j : Nat) (ht : t < m) (x : Int) (h : Eg D.C c g k (D.so (mem t)) j x) : x ≤ js D c g k mem m j :=
  Int.le_trans (by show x ≤ jm D c g k (mem t) (js D c g k mem t) j; unfold jm; exact Int.le_trans (je_eg _ _ _ _ h) (jo_le _ _ _)) (js_mono mem j (t + 1) m ht)

theorem js_cases (mem : Nat → Nat) (t j : Nat) (x : Int) (h : js D c g k mem (t + 1) j = x) :
    js D c g k mem t j = x ∨ Own D (mem t) j x ∨ Eg D.C c g k (D.be (mem t)) j x ∨ Eg D.C c g k (D.so (mem t)) j x := by
  have h' : jm D c g k (mem t) (js D c g k mem t) j = x := h
  unfold jm at h'
  rcases jo_cases _ _ _ _ h' with h1 | h1
  · rcases je_cases _ _ _ _ h1 with h2 | h2
    · rcases je_cases _ _ _ _ h2 with h3 | h3
      · exact .inl h3
      · exact .inr (.inr (.inl h3))
    · exact .inr (.inr (.inr h2))
  · exact .inr (.inl h1)
end

end Go.Proofs.Qxb6604061a
