import Derived.Test.Qxb6604061aChk
namespace Go.Proofs.Qxb6604061a

/-- One edge: the clock row of the predecessor's group is joined in, unless there is none or it lies in the group itself. -/
def je (C : Nat) (c g : Nat → Int) (k p : Int) (v : Nat → Int) : Nat → Int := if p < 0 ∨ g p.toNat = k then v else fun j => max (v j) (c ((g p.toNat).toNat * C + j))

/-- A member's own index. -/
def jo (D : Hist) (i : Nat) (v : Nat → Int) : Nat → Int := if ordb (D.s i) (D.o i) then fun j => if (j : Int) = D.cl i then max (v j) (D.ix i) else v j else v

/-- One member. -/
def jm (D : Hist) (c g : Nat → Int) (k : Int) (i : Nat) (v : Nat → Int) : Nat → Int := jo D i (je D.C c g k (D.so i) (je D.C c g k (D.be i) v))

/-- The first t members. -/
def js (D : Hist) (c g : Nat → Int) (k : Int) (mem : Nat → Nat) : Nat → Nat → Int
  | 0 => fun _ => 0
  | t + 1 => jm D c g k (mem t) (js D c g k mem t)

/-- The groups when the first t members are numbered. -/
def gs (g : Nat → Int) (k : Int) (mem : Nat → Nat) : Nat → Nat → Int
  | 0 => g
  | t + 1 => fun i => if i = mem t then k else gs g k mem t i

theorem gs_mem (g : Nat → Int) (k : Int) (mem : Nat → Nat) : ∀ t i, (∃ x, x < t ∧ mem x = i) → gs g k mem t i = k
  | 0, i, ⟨x, hx, _⟩ => absurd hx (by omega)
  | t + 1, i, ⟨x, hx, e⟩ => by
    unfold gs
    by_cases h : i = mem t
    · rw [if_pos h]
    · rw [if_neg h]
      refine gs_mem g k mem t i ⟨x, ?_, e⟩
      by_cases hxt : x = t
      · subst hxt; exact absurd e.symm h
      · omega

theorem gs_not (g : Nat → Int) (k : Int) (mem : Nat → Nat) : ∀ t i, (¬ ∃ x, x < t ∧ mem x = i) → gs g k mem t i = g i
  | 0, _, _ => rfl
  | t + 1, i, h => by
    unfold gs
    rw [if_neg (fun e => h ⟨t, by omega, e.symm⟩)]
    exact gs_not g k mem t i (fun ⟨x, hx, e⟩ => h ⟨x, by omega, e⟩)

/-- The clock when the row at 'base' is v. -/
def cv (base C : Nat) (c v : Nat → Int) (x : Nat) : Int := if x < base then c x else if x < base + C then v (x - base) else c x

end Go.Proofs.Qxb6604061a
