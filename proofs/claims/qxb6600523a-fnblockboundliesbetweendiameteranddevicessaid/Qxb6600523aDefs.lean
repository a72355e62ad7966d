/-
  Plain definitions and facts on a network given by rows: no Go in sight.
-/
namespace Go.Proofs.Qxb6600523a

/-- Port k of device u is in order. -/
def KOK (n : Nat) (z p : Nat → Int) (u k : Nat) : Prop :=
  0 ≤ p k ∧ p k < n ∧ p k ≠ u ∧ (∀ k2 : Nat, z u ≤ k2 → k2 < k → p k2 ≠ p k) ∧ ∃ k3 : Nat, z (p k).toNat ≤ k3 ∧ (k3 : Int) < z ((p k).toNat + 1) ∧ p k3 = u

/-- What the text's test looks for, said of integers. -/
structure SGz (n m : Nat) (z p : Nat → Int) : Prop where
  pos : 1 ≤ n
  f0 : z 0 = 0
  fn : z n = m
  mono : ∀ i, i < n → z i ≤ z (i + 1)
  port : ∀ u k : Nat, u < n → z u ≤ k → (k : Int) < z (u + 1) → KOK n z p u k

/-- A simple network, said of natural numbers. -/
structure SG (n m : Nat) (F P : Nat → Nat) : Prop where
  pos : 1 ≤ n
  f0 : F 0 = 0
  fn : F n = m
  mono : ∀ i, i < n → F i ≤ F (i + 1)
  lt : ∀ u k, u < n → F u ≤ k → k < F (u + 1) → P k < n
  ne : ∀ u k, u < n → F u ≤ k → k < F (u + 1) → P k ≠ u
  nodup : ∀ u k k2, u < n → F u ≤ k2 → k2 < k → k < F (u + 1) → P k2 ≠ P k
  back : ∀ u k, u < n → F u ≤ k → k < F (u + 1) → ∃ k3, F (P k) ≤ k3 ∧ k3 < F (P k + 1) ∧ P k3 = u

theorem mono_le {n : Nat} {z : Nat → Int} (h : ∀ i, i < n → z i ≤ z (i + 1)) (j : Nat) : ∀ i, i ≤ j → j ≤ n → z i ≤ z j := by
  induction j with
  | zero => intro i hi _; have : i = 0 := by omega
            subst this; exact Int.le_refl _
  | succ j ih =>
    intro i hi hj
    by_cases e : i = j + 1
    · subst e; exact Int.le_refl _
    · exact Int.le_trans (ih i (by omega) (by omega)) (h j (by omega))

theorem cover {n : Nat} {z : Nat → Int} (h0 : z 0 = 0) : ∀ (j : Nat), j ≤ n → ∀ k : Nat, (k : Int) < z j → ∃ u, u < j ∧ z u ≤ k ∧ (k : Int) < z (u + 1) := by
  intro j
  induction j with
  | zero => intro _ k hk; omega
  | succ j ih =>
    intro hj k hk
    by_cases e : (k : Int) < z j
    · obtain ⟨u, h1, h2, h3⟩ := ih (by omega) k e
      exact ⟨u, by omega, h2, h3⟩
    · exact ⟨j, by omega, by omega, hk⟩

theorem SGz.nat {n m : Nat} {z p : Nat → Int} (h : SGz n m z p) :
    (∀ i, i ≤ n → z i = ((z i).toNat : Int)) ∧ (∀ k, k < m → p k = ((p k).toNat : Int)) ∧ SG n m (fun i => (z i).toNat) (fun k => (p k).toNat) := by
  have hz : ∀ i, i ≤ n → z i = ((z i).toNat : Int) := by
    intro i hi
    have := mono_le h.mono i 0 (by omega) hi
    have := h.f0
    omega
  have hp : ∀ k, k < m → p k = ((p k).toNat : Int) := by
    intro k hk
    obtain ⟨u, h1, h2, h3⟩ := cover (n := n) h.f0 n (Nat.le_refl _) k (by rw [h.fn]; omega)
    have := (h.port u k h1 h2 h3).1
    omega
  refine ⟨hz, hp, ?_⟩
  have key : ∀ u k : Nat, u < n → (z u).toNat ≤ k → k < (z (u + 1)).toNat → z u ≤ k ∧ (k : Int) < z (u + 1) := by
    intro u k hu h1 h2
    have a := hz u (by omega)
    have b := hz (u + 1) (by omega)
    omega
  have mz : ∀ u : Nat, u < n → ∀ k : Nat, (k : Int) < z (u + 1) → k < m := by
    intro u hu k hk
    have := mono_le h.mono n (u + 1) (by omega) (Nat.le_refl _)
    rw [h.fn] at this
    omega
  refine ⟨h.pos, by simp [h.f0], by simp [h.fn], ?_, ?_, ?_, ?_, ?_⟩
  · intro i hi
    have := h.mono i hi
    have a := hz i (by omega)
    have b := hz (i + 1) (by omega)
    show (z i).toNat ≤ (z (i + 1)).toNat
    omega
  · intro u k hu h1 h2
    obtain ⟨a, b⟩ := key u k hu h1 h2
    obtain ⟨c, d, _⟩ := h.port u k hu a b
    show (p k).toNat < n
    omega
  · intro u k hu h1 h2
    obtain ⟨a, b⟩ := key u k hu h1 h2
    obtain ⟨c, d, e, _⟩ := h.port u k hu a b
    show (p k).toNat ≠ u
    omega
  · intro u k k2 hu h1 h2 h3
    obtain ⟨a, b⟩ := key u k hu (by omega) h3
    obtain ⟨c, d, e, f, _⟩ := h.port u k hu a b
    have a2 := (key u k2 hu h1 (by omega)).1
    have b2 := (key u k2 hu h1 (by omega)).2
    have := f k2 a2 h2
    have x := hp k (mz u hu k b)
    have y := hp k2 (mz u hu k2 b2)
    show (p k2).toNat ≠ (p k).toNat
    omega
  · intro u k hu h1 h2
    obtain ⟨a, b⟩ := key u k hu h1 h2
    obtain ⟨c, d, e, f, k3, g1, g2, g3⟩ := h.port u k hu a b
    refine ⟨k3, ?_, ?_, ?_⟩
    · show (z (p k).toNat).toNat ≤ k3
      omega
    · show k3 < (z ((p k).toNat + 1)).toNat
      omega
    · show (p k3).toNat = u
      omega

end Go.Proofs.Qxb6600523a
