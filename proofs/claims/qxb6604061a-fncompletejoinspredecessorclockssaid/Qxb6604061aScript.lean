import Derived.Test.Qxb6604061aPlain
namespace Go.Proofs.Qxb6604061a

/-- The clock K of a list whose edges lead back: the least row that is at least 0, the rows of the direct predecessors and the own index. -/
structure Clk (n C : Nat) (ord : Nat → Bool) (cl ix be so : Nat → Int) (K : Nat → Nat → Int) : Prop where
  zero : ∀ i, i < n → ∀ j, j < C → 0 ≤ K i j
  edgeb : ∀ i, i < n → ∀ j, j < C → 0 ≤ be i → K (be i).toNat j ≤ K i j
  edges : ∀ i, i < n → ∀ j, j < C → 0 ≤ so i → K (so i).toNat j ≤ K i j
  own : ∀ i, i < n → ∀ j, j < C → ord i = true → cl i = j → ix i ≤ K i j
  least : ∀ i, i < n → ∀ j, j < C → ∀ b : Int, 0 ≤ b → (0 ≤ be i → K (be i).toNat j ≤ b) → (0 ≤ so i → K (so i).toNat j ≤ b) → (ord i = true → cl i = j → ix i ≤ b) → K i j ≤ b

/-- How many of the first n bear the mark s. -/
def cntm (mark : Nat → Int) (s : Int) : Nat → Nat
  | 0 => 0
  | n + 1 => cntm mark s n + if mark n = s then 1 else 0

theorem cntm_le (mark : Nat → Int) (s : Int) : ∀ n, cntm mark s n ≤ n
  | 0 => Nat.le_refl _
  | n + 1 => by
    unfold cntm
    have := cntm_le mark s n
    by_cases h : mark n = s
    · rw [if_pos h]; omega
    · rw [if_neg h]; omega

theorem cntm_same (mark : Nat → Int) (s : Int) (p : Nat) : ∀ n, n ≤ p → cntm (fun x => if x = p then s else mark x) s n = cntm mark s n
  | 0, _ => rfl
  | n + 1, h => by
    unfold cntm
    rw [cntm_same mark s p n (by omega), if_neg (show ¬ n = p by omega)]

theorem cntm_set (mark : Nat → Int) (s : Int) (p : Nat) (hp : mark p ≠ s) : ∀ n, p < n → cntm (fun x => if x = p then s else mark x) s n = cntm mark s n + 1
  | 0, h => absurd h (by omega)
  | n + 1, h => by
    unfold cntm
    by_cases e : n = p
    · subst e
      rw [cntm_same mark s n n (Nat.le_refl _), if_pos rfl, if_pos rfl, if_neg hp]
    · rw [cntm_set mark s p hp n (by omega), if_neg e]
      omega

/-- Counted, and its edges followed. -/
def Proc (ord : Nat → Bool) (cl ix be so : Nat → Int) (want mark : Nat → Int) (s : Int) (x : Nat) : Prop :=
  (ord x = true → ix x ≤ want (cl x).toNat) ∧ (0 ≤ be x → mark (be x).toNat = s) ∧ (0 ≤ so x → mark (so x).toNat = s)

structure DInv (n C : Nat) (ord : Nat → Bool) (cl ix be so : Nat → Int) (K : Nat → Nat → Int) (i : Nat) (s : Int) (X : Nat → Prop) (top : Nat) (mark stack want : Nat → Int) : Prop where
  le : ∀ x, x < n → mark x ≤ s
  self : mark i = s
  lo : ∀ x, x < n → mark x = s → ∀ j, j < C → K x j ≤ K i j
  w0 : ∀ j, j < C → 0 ≤ want j
  w1 : ∀ j, j < C → want j ≤ K i j
  st : ∀ t, t < top → ∃ x : Nat, x < n ∧ stack t = x ∧ mark x = s
  done : ∀ x, x < n → mark x = s → X x ∨ (∃ t, t < top ∧ stack t = x) ∨ Proc ord cl ix be so want mark s x
  cnt : top ≤ cntm mark s n

section
variable {n C : Nat} {ord : Nat → Bool} {cl ix be so : Nat → Int} {K : Nat → Nat → Int} {i : Nat} {s : Int}

/-- What the pop counts. -/
def wnt (ord : Nat → Bool) (cl ix want : Nat → Int) (q : Nat) : Nat → Int := if ord q = true ∧ want (cl q).toNat < ix q then fun j => if j = (cl q).toNat then ix q else want j else want

theorem wnt_le (want : Nat → Int) (q j : Nat) : want j ≤ wnt ord cl ix want q j := by
  unfold wnt
  by_cases h : ord q = true ∧ want (cl q).toNat < ix q
  · rw [if_pos h]
    by_cases e : j = (cl q).toNat
    · subst e; simp only [if_pos]; omega
    · simp only [if_neg e]; omega
  · rw [if_neg h]; omega

theorem wnt_own (want : Nat → Int) (q : Nat) (ho : ord q = true) : ix q ≤ wnt ord cl ix want q (cl q).toNat := by
  unfold wnt
  by_cases h : ord q = true ∧ want (cl q).toNat < ix q
  · rw [if_pos h]; simp
  · rw [if_neg h]
    have : ¬ want (cl q).toNat < ix q := fun e => h ⟨ho, e⟩
    omega

theorem Proc.up {want mark want' mark' : Nat → Int} {x : Nat} (h : Proc ord cl ix be so want mark s x) (hw : ∀ j, want j ≤ want' j) (hm : ∀ y, mark y = s → mark' y = s) : Proc ord cl ix be so want' mark' s x :=
  ⟨fun ho => Int.le_trans (h.1 ho) (hw _), fun hb => hm _ (h.2.1 hb), fun hb => hm _ (h.2.2 hb)⟩

theorem DInv.pop {top : Nat} {mark stack want : Nat → Int} (hK : Clk n C ord cl ix be so K) (hcl : ∀ x, x < n → ord x = true → 0 ≤ cl x ∧ cl x < C) (h : DInv n C ord cl ix be so K i s (fun _ => False) (top + 1) mark stack want) :
    ∃ q : Nat, q < n ∧ stack top = q ∧ mark q = s ∧ DInv n C ord cl ix be so K i s (fun x => x = q) top mark stack (wnt ord cl ix want q) := by
  obtain ⟨q, hq, hst, hm⟩ := h.st top (by omega)
  refine ⟨q, hq, hst, hm, h.le, h.self, h.lo, fun j hj => Int.le_trans (h.w0 j hj) (wnt_le _ _ _), fun j hj => ?_, fun t ht => h.st t (by omega), fun x hx hmx => ?_, by have := h.cnt; omega⟩
  · unfold wnt
    by_cases hc : ord q = true ∧ want (cl q).toNat < ix q
    · rw [if_pos hc]
      by_cases e : j = (cl q).toNat
      · simp only [if_pos e]
        have := hcl q hq hc.1
        exact Int.le_trans (hK.own q hq j hj hc.1 (by omega)) (h.lo q hq hm j hj)
      · simp only [if_neg e]; exact h.w1 j hj
    · rw [if_neg hc]; exact h.w1 j hj
  · rcases h.done x hx hmx with h1 | ⟨t, ht, e⟩ | h1
    · exact absurd h1 id
    · by_cases e2 : t = top
      · subst e2
        left
        have : (q : Int) = (x : Int) := hst.symm.trans e
        omega
      · exact .inr (.inl ⟨t, by omega, e⟩)
    · exact .inr (.inr (h1.up (fun j => wnt_le _ _ _) (fun _ e => e)))

theorem DInv.push {q top : Nat} {mark stack want : Nat → Int} (h : DInv n C ord cl ix be so K i s (fun x => x = q) top mark stack want) (p : Nat) (hp : p < n) (hm : mark p ≠ s) (hlo : ∀ j, j < C → K p j ≤ K i j) :
    top < n ∧ DInv n C ord cl ix be so K i s (fun x => x = q) (top + 1) (fun x => if x = p then s else mark x) (fun t => if t = top then (p : Int) else stack t) want := by
  have hc := cntm_set mark s p hm n hp
  have hcn := cntm_le (fun x => if x = p then s else mark x) s n
  have hct := h.cnt
  have hup : ∀ y, mark y = s → (fun x => if x = p then s else mark x) y = s := fun y hy => by
    by_cases e : y = p
    · simp only [if_pos e]
    · simp only [if_neg e]; exact hy
  refine ⟨by omega, fun x hx => ?_, hup _ h.self, fun x hx hmx j hj => ?_, h.w0, h.w1, fun t ht => ?_, fun x hx hmx => ?_, by omega⟩
  · by_cases e : x = p
    · simp only [if_pos e]; omega
    · simp only [if_neg e]; exact h.le x hx
  · by_cases e : x = p
    · subst e; exact hlo j hj
    · simp only [if_neg e] at hmx; exact h.lo x hx hmx j hj
  · by_cases e : t = top
    · exact ⟨p, hp, by simp only [if_pos e], by simp⟩
    · obtain ⟨x, hx, h1, h2⟩ := h.st t (by omega)
      exact ⟨x, hx, by simp only [if_neg e]; exact h1, hup x h2⟩
  · by_cases e : x = p
    · subst e; exact .inr (.inl ⟨top, by omega, by simp⟩)
    · simp only [if_neg e] at hmx
      rcases h.done x hx hmx with h1 | ⟨t, ht, e1⟩ | h1
      · exact .inl h1
      · exact .inr (.inl ⟨t, by omega, by simp only [if_neg (show ¬ t = top by omega)]; exact e1⟩)
      · exact .inr (.inr (h1.up (fun j => Int.le_refl _) hup))

theorem DInv.close {q top : Nat} {mark stack want : Nat → Int} (h : DInv n C ord cl ix be so K i s (fun x => x = q) top mark stack want) (hp : Proc ord cl ix be so want mark s q) :
    DInv n C ord cl ix be so K i s (fun _ => False) top mark stack want := by
  refine ⟨h.le, h.self, h.lo, h.w0, h.w1, h.st, fun x hx hmx => ?_, h.cnt⟩
  rcases h.done x hx hmx with h1 | h1 | h1
  · subst h1; exact .inr (.inr hp)
  · exact .inr (.inl h1)
  · exact .inr (.inr h1)

theorem DInv.start {mark stack want : Nat → Int} (hi : i < n) (hm : ∀ x, x < n → mark x < s) (hw : ∀ j, j < C → want j = 0) (hK : Clk n C ord cl ix be so K) :
    DInv n C ord cl ix be so K i s (fun _ => False) 1 (fun x => if x = i then s else mark x) (fun t => if t = 0 then (i : Int) else stack t) want := by
  have hc := cntm_set mark s i (by have := hm i hi; omega) n hi
  refine ⟨fun x hx => ?_, by simp, fun x hx hmx j hj => ?_, fun j hj => by rw [hw j hj]; omega, fun j hj => by rw [hw j hj]; exact hK.zero i hi j hj, fun t ht => ⟨i, hi, by simp only [if_pos (show t = 0 by omega)], by simp⟩, fun x hx hmx => ?_, by omega⟩
  · by_cases e : x = i
    · simp only [if_pos e]; omega
    · simp only [if_neg e]; have := hm x hx; omega
  · by_cases e : x = i
    · subst e; omega
    · simp only [if_neg e] at hmx; have := hm x hx; omega
  · by_cases e : x = i
    · subst e; exact .inr (.inl ⟨0, by omega, by simp⟩)
    · simp only [if_neg e] at hmx; have := hm x hx; omega

theorem DInv.finish {mark stack want : Nat → Int} (hi : i < n) (hK : Clk n C ord cl ix be so K) (hb : ∀ x, x < n → be x < x) (hs : ∀ x, x < n → so x < x) (h : DInv n C ord cl ix be so K i s (fun _ => False) 0 mark stack want) :
    ∀ j, j < C → K i j = want j := by
  intro j hj
  have key : ∀ m q, q < m → q < n → mark q = s → K q j ≤ want j := by
    intro m
    induction m with
    | zero => intro q hq; omega
    | succ m ih =>
      intro q hqm hq hm
      rcases h.done q hq hm with h1 | ⟨t, ht, _⟩ | ⟨p1, p2, p3⟩
      · exact absurd h1 id
      · omega
      · have hbq := hb q hq
        have hsq := hs q hq
        refine hK.least q hq j hj (want j) (h.w0 j hj) (fun h0 => ih _ (by omega) (by omega) (p2 h0)) (fun h0 => ih _ (by omega) (by omega) (p3 h0)) (fun ho hcl => ?_)
        have := p1 ho
        rw [hcl, Int.toNat_natCast] at this
        exact this
  exact Int.le_antisymm (key (i + 1) i (by omega) hi h.self) (h.w1 j hj)

end

/-- The groups when the first i operations are complete, each alone. -/
def gN (i : Nat) (x : Nat) : Int := if x < i then (x : Int) else -1

/-- The clock when the first i operations are complete, each alone. -/
def zN (D : Hist) : Nat → Nat → Int
  | 0 => fun _ => 0
  | i + 1 => cv (i * D.C) D.C (zN D i) (js D (zN D i) (gs (gN i) i (fun _ => i) 1) i (fun _ => i) 1)

def kN (D : Hist) (i j : Nat) : Int := zN D (i + 1) (i * D.C + j)

theorem gN_step (i : Nat) : gs (gN i) i (fun _ => i) 1 = gN (i + 1) := by
  funext x
  simp only [gs, gN]
  by_cases h : x = i
  · subst h; rw [if_pos rfl, if_pos (by omega)]
  · rw [if_neg h]
    by_cases h1 : x < i
    · rw [if_pos h1, if_pos (by omega)]
    · rw [if_neg h1, if_neg (by omega)]

theorem zN_zero (D : Hist) : ∀ m x, m * D.C ≤ x → zN D m x = 0
  | 0, _, _ => rfl
  | m + 1, x, h => by
    rw [Nat.add_mul, Nat.one_mul] at h
    unfold zN cv
    rw [if_neg (by omega), if_neg (by omega)]
    exact zN_zero D m x (by omega)

theorem zN_stable (D : Hist) (i j : Nat) (hj : j < D.C) : ∀ m, i < m → zN D m (i * D.C + j) = kN D i j
  | 0, h => absurd h (by omega)
  | m + 1, h => by
    by_cases e : m = i
    · subst e; rfl
    · have h1 := Nat.mul_le_mul_right D.C (show i + 1 ≤ m by omega)
      rw [Nat.add_mul, Nat.one_mul] at h1
      rw [← zN_stable D i j hj m (by omega)]
      conv => lhs; unfold zN cv
      rw [if_pos (by omega)]

theorem je_edge (D : Hist) (i j : Nat) (hj : j < D.C) (p : Int) (hp : p < i) (v : Nat → Int) :
    je D.C (zN D i) (gN (i + 1)) i p v j = if 0 ≤ p then max (v j) (kN D p.toNat j) else v j := by
  unfold je
  by_cases h : 0 ≤ p
  · obtain ⟨q, rfl⟩ := Int.eq_ofNat_of_zero_le h
    have hq : q < i := by omega
    have hg : gN (i + 1) q = (q : Int) := by unfold gN; rw [if_pos (by omega)]
    simp only [Int.toNat_natCast, hg]
    rw [if_neg (by omega), if_pos h, zN_stable D q j hj i hq]
  · rw [if_pos (.inl (by omega)), if_neg h]

theorem kN_eq (D : Hist) (i j : Nat) (hj : j < D.C) : kN D i j = jm D (zN D i) (gN (i + 1)) i i (fun _ => 0) j := by
  have e : js D (zN D i) (gN (i + 1)) i (fun _ => i) 1 = jm D (zN D i) (gN (i + 1)) i i (fun _ => 0) := rfl
  unfold kN
  conv => lhs; unfold zN cv
  rw [if_neg (by omega), if_pos (by omega), gN_step, Nat.add_sub_cancel_left, e]

theorem kN_clk (D : Hist) (hb : ∀ x, x < D.n → D.be x < x) (hs : ∀ x, x < D.n → D.so x < x) :
    Clk D.n D.C (fun x => ordb (D.s x) (D.o x)) D.cl D.ix D.be D.so (kN D) := by
  have key : ∀ i, i < D.n → ∀ j, j < D.C → ∃ a b : Int, a = (if 0 ≤ D.be i then max 0 (kN D (D.be i).toNat j) else 0) ∧ b = (if 0 ≤ D.so i then max a (kN D (D.so i).toNat j) else a) ∧
      kN D i j = if ordb (D.s i) (D.o i) = true ∧ (j : Int) = D.cl i then max b (D.ix i) else b := by
    intro i hi j hj
    refine ⟨_, _, rfl, rfl, ?_⟩
    rw [kN_eq D i j hj]
    unfold jm jo
    by_cases ho : ordb (D.s i) (D.o i) = true
    · rw [if_pos ho]
      by_cases hc : (j : Int) = D.cl i
      · simp only [if_pos hc, if_pos (show ordb (D.s i) (D.o i) = true ∧ (j : Int) = D.cl i from ⟨ho, hc⟩)]
        rw [je_edge D i j hj _ (hs i hi), je_edge D i j hj _ (hb i hi)]
      · simp only [if_neg hc, if_neg (show ¬ (ordb (D.s i) (D.o i) = true ∧ (j : Int) = D.cl i) from fun h => hc h.2)]
        rw [je_edge D i j hj _ (hs i hi), je_edge D i j hj _ (hb i hi)]
    · rw [if_neg ho, if_neg (show ¬ (ordb (D.s i) (D.o i) = true ∧ (j : Int) = D.cl i) from fun h => ho h.1)]
      rw [je_edge D i j hj _ (hs i hi), je_edge D i j hj _ (hb i hi)]
  have ka : ∀ i, i < D.n → ∀ j, j < D.C → ∃ a b : Int, 0 ≤ a ∧ a ≤ b ∧ b ≤ kN D i j ∧ (0 ≤ D.be i → kN D (D.be i).toNat j ≤ a) ∧ (0 ≤ D.so i → kN D (D.so i).toNat j ≤ b) := by
    intro i hi j hj
    obtain ⟨a, b, ha, hb, hk⟩ := key i hi j hj
    refine ⟨a, b, ?_, ?_, ?_, fun h => ?_, fun h => ?_⟩
    · rw [ha]; split <;> omega
    · rw [hb]; split <;> omega
    · rw [hk]; split <;> omega
    · rw [ha, if_pos h]; omega
    · rw [hb, if_pos h]; omega
  refine ⟨fun i hi j hj => ?_, fun i hi j hj h0 => ?_, fun i hi j hj h0 => ?_, fun i hi j hj ho hc => ?_, fun i hi j hj c h0 h1 h2 h3 => ?_⟩
  · obtain ⟨a, b, x1, x2, x3, _, _⟩ := ka i hi j hj; omega
  · obtain ⟨a, b, x1, x2, x3, x4, _⟩ := ka i hi j hj; have := x4 h0; omega
  · obtain ⟨a, b, x1, x2, x3, _, x4⟩ := ka i hi j hj; have := x4 h0; omega
  · obtain ⟨a, b, _, _, hk⟩ := key i hi j hj
    rw [hk, if_pos ⟨ho, hc.symm⟩]; omega
  · obtain ⟨a, b, ha, hb, hk⟩ := key i hi j hj
    have e1 : a ≤ c := by
      rw [ha]; split
      · rename_i h; have := h1 h; omega
      · omega
    have e2 : b ≤ c := by
      rw [hb]; split
      · rename_i h; have := h2 h; omega
      · omega
    rw [hk]; split
    · rename_i h; have := h3 h.1 h.2.symm; omega
    · exact e2

end Go.Proofs.Qxb6604061a
