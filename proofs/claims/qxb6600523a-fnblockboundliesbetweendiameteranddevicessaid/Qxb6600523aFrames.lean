/-
  What a walk depth first keeps up about its open devices: frame by frame. No Go in sight.
-/
import Derived.Test.Qxb6600523aBlock
namespace Go.Proofs.Qxb6600523a

section
variable {adj : Nat → Nat → Prop} {place : Nat → Nat}

/-- The open devices H that hang from p are joined to p. -/
def Conn (adj : Nat → Nat → Prop) (p : Nat) (H : List Nat) : Prop :=
  ∀ S : Nat → Prop, S p → (∀ a b, (a = p ∨ a ∈ H) → b ∈ H → adj a b → S a → S b) → ∀ b, b ∈ H → S b

/-- .. and, whatever device z is taken out, to p and those above p (A) at place l or later. -/
def Att (adj : Nat → Nat → Prop) (place : Nat → Nat) (p : Nat) (A H : List Nat) (l : Nat) : Prop :=
  ∀ (z : Nat) (S : Nat → Prop), (∀ a, (a = p ∨ a ∈ A) → a ≠ z → l ≤ place a → S a) → (∀ a b, S a → b ∈ H → b ≠ z → adj a b → S b) → ∀ b, b ∈ H → b ≠ z → S b

structure FrameOK (adj : Nat → Nat → Prop) (place : Nat → Nat) (l p : Nat) (H A : List Nat) : Prop where
  conn : Conn adj p H
  att : Att adj place p A H l
  lowr : l = place p ∨ ∃ g f, (g = p ∨ g ∈ H) ∧ f ∈ A ∧ adj f g ∧ place f = l
  le : l ≤ place p
  up : ∀ a, a ∈ A → place a < place p
  down : ∀ b, b ∈ H → place p < place b

/-- A frame of a device just come to. -/
theorem FrameOK.fresh {p : Nat} {A : List Nat} (h : ∀ a, a ∈ A → place a < place p) : FrameOK adj place (place p) p [] A where
  conn := fun _ _ _ b hb => absurd hb (by simp)
  att := fun _ _ _ _ b hb => absurd hb (by simp)
  lowr := .inl rfl
  le := Nat.le_refl _
  up := h
  down := fun b hb => absurd hb (by simp)

/-- A cable from p to a device f above it. -/
theorem FrameOK.back {l p : Nat} {H A : List Nat} (h : FrameOK adj place l p H A) {f : Nat} (hf : place f < place p → f ∈ A ∧ adj f p) : FrameOK adj place (min l (place f)) p H A := by
  by_cases e : place f < l
  · rw [Nat.min_eq_right (by omega)]
    have := hf (by have := h.le; omega)
    refine ⟨h.conn, ?_, .inr ⟨p, f, .inl rfl, this.1, this.2, rfl⟩, by have := h.le; omega, h.up, h.down⟩
    intro z S h1 h2
    exact h.att z S (fun a ha hz hl => h1 a ha hz (by omega)) h2
  · rw [Nat.min_eq_left (by omega)]
    exact h

/-- The walk leaves c, whose block goes on above u. -/
theorem FrameOK.merge (hs : ∀ a b, adj a b → adj b a) {lu lc u c : Nat} {Hu Hc A : List Nat} (hc : FrameOK adj place lc c Hc (u :: A)) (hu : FrameOK adj place lu u Hu A) (huc : adj u c) (hl : lc < place u) :
    FrameOK adj place (min lu lc) u (Hc ++ c :: Hu) A := by
  have hpc : place u < place c := hc.up u (by simp)
  have mem : ∀ b, b ∈ Hc ++ c :: Hu → b ∈ Hc ∨ b = c ∨ b ∈ Hu := by
    intro b hb
    simpa using hb
  refine ⟨?_, ?_, ?_, by have := hu.le; omega, hu.up, ?_⟩
  · intro S h1 h2
    have hSu : ∀ b, b ∈ Hu → S b := hu.conn S h1 (fun a b ha hb hab hSa => h2 a b (by rcases ha with h | h <;> simp [h]) (by simp [hb]) hab hSa)
    have hSc : S c := h2 u c (.inl rfl) (by simp) huc h1
    have hSh : ∀ b, b ∈ Hc → S b := hc.conn S hSc (fun a b ha hb hab hSa => h2 a b (by rcases ha with h | h <;> simp [h]) (by simp [hb]) hab hSa)
    intro b hb
    rcases mem b hb with h | h | h
    · exact hSh b h
    · subst h; exact hSc
    · exact hSu b h
  · intro z S h1 h2
    have hU : ∀ b, b ∈ Hu → b ≠ z → S b := hu.att z S (fun a ha hz hl' => h1 a ha hz (by omega)) (fun a b hSa hb hz hab => h2 a b hSa (by simp [hb]) hz hab)
    have hC : c ≠ z → S c := by
      intro hcz
      by_cases ez : u = z
      · -- u itself is taken out: the cable from below c to above u
        subst ez
        rcases hc.lowr with e | ⟨g, f, hg, hf, hfg, hfl⟩
        · omega
        have hfu : f ≠ u := by intro e; subst e; omega
        have hfA : f ∈ A := by
          rcases List.mem_cons.1 hf with e | e
          · exact absurd e hfu
          · exact e
        have hSf : S f := h1 f (.inr hfA) hfu (by omega)
        have hgm : g ∈ Hc ++ c :: Hu := by rcases hg with h | h <;> simp [h]
        have hgu : g ≠ u := by
          intro e
          subst e
          rcases hg with h | h
          · subst h; omega
          · have := hc.down _ h; omega
        have hSg : S g := h2 f g hSf hgm hgu hfg
        refine Classical.byContradiction fun hn => ?_
        have hall : ∀ b, b ∈ Hc → ¬ S b := by
          refine hc.conn (fun v => ¬ S v) hn ?_
          intro a b ha hb hab hSa hSb
          refine hSa (h2 b a hSb ?_ ?_ (hs _ _ hab))
          · rcases ha with h | h <;> simp [h]
          · intro e
            subst e
            rcases ha with h | h
            · subst h; omega
            · have := hc.down _ h; omega
        rcases hg with h | h
        · subst h; exact hn hSg
        · exact hall g h hSg
      · exact h2 u c (h1 u (.inl rfl) ez (by have := hu.le; omega)) (by simp) hcz huc
    have hH : ∀ b, b ∈ Hc → b ≠ z → S b := by
      refine hc.att z S ?_ (fun a b hSa hb hz hab => h2 a b hSa (by simp [hb]) hz hab)
      intro a ha hz hl'
      rcases ha with h | h
      · subst h; exact hC hz
      · rcases List.mem_cons.1 h with h | h
        · exact h1 a (.inl h) hz (by omega)
        · exact h1 a (.inr h) hz (by omega)
    intro b hb hz
    rcases mem b hb with h | h | h
    · exact hH b h hz
    · subst h; exact hC hz
    · exact hU b h hz
  · by_cases e : lc < lu
    · rw [Nat.min_eq_right (by omega)]
      rcases hc.lowr with e' | ⟨g, f, hg, hf, hfg, hfl⟩
      · omega
      have hfu : f ≠ u := by intro e; subst e; omega
      have hfA : f ∈ A := by
        rcases List.mem_cons.1 hf with e | e
        · exact absurd e hfu
        · exact e
      exact .inr ⟨g, f, .inr (by rcases hg with h | h <;> simp [h]), hfA, hfg, hfl⟩
    · rw [Nat.min_eq_left (by omega)]
      rcases hu.lowr with e' | ⟨g, f, hg, hf, hfg, hfl⟩
      · exact .inl e'
      · exact .inr ⟨g, f, by rcases hg with h | h <;> simp [h], hf, hfg, hfl⟩
  · intro b hb
    rcases mem b hb with h | h | h
    · have := hc.down b h; omega
    · subst h; exact hpc
    · exact hu.down b h

/-- The walk leaves c, whose block closes at u: it stays connected whatever device is taken out. -/
theorem FrameOK.close (hs : ∀ a b, adj a b → adj b a) {lu lc u c : Nat} {Hu Hc A : List Nat} (hc : FrameOK adj place lc c Hc (u :: A)) (hu : FrameOK adj place lu u Hu A) (huc : adj u c) (hl : place u ≤ lc) :
    TwoConn adj (u :: c :: Hc) := by
  have hpc : place u < place c := hc.up u (by simp)
  -- from one base point all are reached
  have key : ∀ (z x0 : Nat) (S : Nat → Prop), (z = u → x0 = c) → (z ≠ u → x0 = u) → S x0 → (∀ a b, a ∈ u :: c :: Hc → b ∈ u :: c :: Hc → a ≠ z → b ≠ z → adj a b → S a → S b) → ∀ y, y ∈ u :: c :: Hc → y ≠ z → S y := by
    intro z x0 S hx1 hx2 hx h2
    by_cases ez : z = u
    · have := hx1 ez
      subst this
      subst ez
      have hH : ∀ b, b ∈ Hc → S b := by
        refine hc.conn S hx ?_
        intro a b ha hb hab hSa
        refine h2 a b (by rcases ha with h | h <;> simp [h]) (by simp [hb]) ?_ ?_ hab hSa
        · intro e; subst e
          rcases ha with h | h
          · subst h; omega
          · have := hc.down _ h; omega
        · intro e; subst e; have := hc.down _ hb; omega
      intro y hy hyz
      simp only [List.mem_cons] at hy
      rcases hy with h | h | h
      · exact absurd h hyz
      · subst h; exact hx
      · exact hH y h
    · have := hx2 ez
      subst this
      have hC : c ≠ z → S c := fun hcz => h2 _ c (by simp) (by simp) (fun e => ez e.symm) hcz huc hx
      have hH : ∀ b, b ∈ Hc → b ≠ z → S b := by
        intro b hb hbz
        refine (hc.att z (fun v => v ∈ x0 :: c :: Hc ∧ v ≠ z ∧ S v) ?_ ?_ b hb hbz).2.2
        · intro a ha hz hl'
          rcases ha with h | h
          · subst h; exact ⟨by simp, hz, hC hz⟩
          · rcases List.mem_cons.1 h with h | h
            · subst h; exact ⟨by simp, hz, hx⟩
            · have := hu.up a h; omega
        · intro a b hSa hb hz hab
          exact ⟨by simp [hb], hz, h2 a b hSa.1 (by simp [hb]) hSa.2.1 hz hab hSa.2.2⟩
      intro y hy hyz
      simp only [List.mem_cons] at hy
      rcases hy with h | h | h
      · subst h; exact hx
      · subst h; exact hC hyz
      · exact hH y h hyz
  intro z S x hxB hxz hSx h2 y hy hyz
  have hsym : ∀ a b, a ∈ u :: c :: Hc → b ∈ u :: c :: Hc → a ≠ z → b ≠ z → adj a b → ¬ S a → ¬ S b := fun a b ha hb haz hbz hab hSa hSb => hSa (h2 b a hb ha hbz haz (hs _ _ hab) hSb)
  have base : ∃ x0, (z = u → x0 = c) ∧ (z ≠ u → x0 = u) := by
    by_cases ez : z = u
    · exact ⟨c, fun _ => rfl, fun h => absurd ez h⟩
    · exact ⟨u, fun h => absurd h ez, fun _ => rfl⟩
  obtain ⟨x0, hb1, hb2⟩ := base
  by_cases h0 : S x0
  · exact key z x0 S hb1 hb2 h0 h2 y hy hyz
  · exact absurd hSx (key z x0 (fun v => ¬ S v) hb1 hb2 h0 hsym x hxB hxz)

/-- Frames, top first: each device of the path with the open devices that hang from it. -/
def Frames (adj : Nat → Nat → Prop) (place low : Nat → Nat) : List (Nat × List Nat) → Prop
  | [] => True
  | (p, H) :: r => FrameOK adj place (low p) p H (r.map Prod.fst) ∧ (∀ q, r.head? = some q → adj q.1 p) ∧ Frames adj place low r

/-- The open devices, latest first. -/
def flat : List (Nat × List Nat) → List Nat
  | [] => []
  | (p, H) :: r => H ++ p :: flat r

theorem FrameOK.congr {place' : Nat → Nat} {l p : Nat} {H A : List Nat} (h : FrameOK adj place l p H A) (hp : place' p = place p) (hA : ∀ a, a ∈ A → place' a = place a) (hH : ∀ b, b ∈ H → place' b = place b) : FrameOK adj place' l p H A := by
  refine ⟨h.conn, ?_, ?_, by rw [hp]; exact h.le, fun a ha => by rw [hp, hA a ha]; exact h.up a ha, fun b hb => by rw [hp, hH b hb]; exact h.down b hb⟩
  · intro z S h1 h2
    refine h.att z S (fun a ha hz hl => h1 a ha hz ?_) h2
    rcases ha with e | e
    · subst e; rw [hp]; exact hl
    · rw [hA a e]; exact hl
  · rcases h.lowr with e | ⟨g, f, hg, hf, hfg, hfl⟩
    · exact .inl (by rw [hp]; exact e)
    · exact .inr ⟨g, f, hg, hf, hfg, by rw [hA f hf]; exact hfl⟩

theorem mem_flat_fst {fs : List (Nat × List Nat)} {a : Nat} (h : a ∈ fs.map Prod.fst) : a ∈ flat fs := by
  induction fs with
  | nil => simp at h
  | cons f r ih =>
    obtain ⟨p, H⟩ := f
    simp only [List.map_cons, List.mem_cons] at h
    rcases h with h | h
    · simp [flat, h]
    · simp [flat, ih h]

theorem Frames.congr {place' low low' : Nat → Nat} {fs : List (Nat × List Nat)} (h : Frames adj place low fs) (hp : ∀ a, a ∈ flat fs → place' a = place a) (hl : ∀ a, a ∈ fs.map Prod.fst → low' a = low a) : Frames adj place' low' fs := by
  induction fs with
  | nil => trivial
  | cons f r ih =>
    obtain ⟨p, H⟩ := f
    obtain ⟨h1, h2, h3⟩ := h
    refine ⟨?_, h2, ih h3 (fun a ha => hp a (by simp [flat, ha])) (fun a ha => hl a (by simp only [List.map_cons, List.mem_cons]; exact .inr ha))⟩
    rw [hl p (by simp)]
    exact h1.congr (hp p (by simp [flat])) (fun a ha => hp a (by simp only [flat, List.mem_append, List.mem_cons]; exact .inr (.inr (mem_flat_fst ha)))) (fun b hb => hp b (by simp [flat, hb]))

end

end Go.Proofs.Qxb6600523a
