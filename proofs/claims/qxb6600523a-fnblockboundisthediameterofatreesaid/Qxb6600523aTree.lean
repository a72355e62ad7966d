/-
  A connected network of n devices and n - 1 cables: its cables are the parent cables of a search; walks cross them; the four points; the two sweeps. No Go in sight.
-/
import Derived.Test.Qxb6600523aDfs2
namespace Go.Proofs.Qxb6600523a

structure Tree (n : Nat) (adj : Nat → Nat → Prop) (par dep : Nat → Nat) : Prop where
  par0 : par 0 = 0
  dep0 : dep 0 = 0
  up : ∀ v, v < n → v ≠ 0 → par v < n ∧ adj (par v) v ∧ dep (par v) + 1 = dep v
  edge : ∀ a b, adj a b → (a = par b ∧ b ≠ 0) ∨ (b = par a ∧ a ≠ 0)

def upn (par : Nat → Nat) : Nat → Nat → Nat
  | 0, v => v
  | j + 1, v => upn par j (par v)

def Sub (par : Nat → Nat) (c v : Nat) : Prop := ∃ j, upn par j v = c

theorem Sub.refl (par : Nat → Nat) (c : Nat) : Sub par c c := ⟨0, rfl⟩

theorem upn_zero {par : Nat → Nat} (h : par 0 = 0) : ∀ j, upn par j 0 = 0
  | 0 => rfl
  | j + 1 => by simp only [upn, h]; exact upn_zero h j

theorem upn_succ (par : Nat → Nat) : ∀ j v, upn par (j + 1) v = par (upn par j v)
  | 0, v => rfl
  | j + 1, v => by
    have := upn_succ par j (par v)
    simp only [upn] at this ⊢
    exact this

theorem Sub.par {par : Nat → Nat} {c v : Nat} (h : Sub par c v) : Sub par (par c) v := by
  obtain ⟨j, rfl⟩ := h
  exact ⟨j + 1, upn_succ par j v⟩

def LB (adj : Nat → Nat → Prop) (k x y : Nat) : Prop := ∀ j, Wk adj j x y → k ≤ j

section
variable {n : Nat} {adj : Nat → Nat → Prop} {par dep : Nat → Nat}

theorem LB.symm (hs : ∀ a b, adj a b → adj b a) {k x y : Nat} (h : LB adj k x y) : LB adj k y x := fun j hj => h j (Wk.symm hs hj)

/-- A walk into the devices below c passes the cable above c. -/
theorem Tree.cross (t : Tree n adj par dep) {c x : Nat} (hx : ¬ Sub par c x) : ∀ k y, Wk adj k x y → Sub par c y → ∃ j, j < k ∧ Wk adj j x (par c) ∧ Wk adj (k - 1 - j) c y := by
  intro k
  induction k with
  | zero => intro y h hy
            have : x = y := h
            subst this
            exact absurd hy hx
  | succ k ih =>
    intro y h hy
    rcases h with h | ⟨z, h, ha⟩
    · obtain ⟨j, h1, h2, h3⟩ := ih y h hy
      exact ⟨j, by omega, h2, h3.mono (by omega)⟩
    · by_cases hz : Sub par c z
      · obtain ⟨j, h1, h2, h3⟩ := ih z h hz
        refine ⟨j, by omega, h2, ?_⟩
        have e : k + 1 - 1 - j = (k - 1 - j) + 1 := by omega
        rw [e]
        exact h3.step ha
      · rcases t.edge z y ha with ⟨e, _⟩ | ⟨e, _⟩
        · obtain ⟨j, hj⟩ := hy
          cases j with
          | zero =>
            have hyc : y = c := hj
            subst hyc
            exact ⟨k, by omega, by rw [← e]; exact h, Wk.refl _ _⟩
          | succ j => exact absurd ⟨j, by rw [e]; exact hj⟩ hz
        · obtain ⟨j, hj⟩ := hy
          exact absurd ⟨j + 1, by simp only [upn]; rw [← e]; exact hj⟩ hz

theorem Tree.lb (t : Tree n adj par dep) {c x y a b : Nat} (hx : ¬ Sub par c x) (hy : Sub par c y) (h1 : LB adj a x (par c)) (h2 : LB adj b c y) : LB adj (a + 1 + b) x y := by
  intro k hk
  obtain ⟨j, g1, g2, g3⟩ := t.cross hx k y hk hy
  have := h1 j g2
  have := h2 _ g3
  omega

theorem Tree.dep_pos (t : Tree n adj par dep) {v : Nat} (hv : v < n) (h : v ≠ 0) : 0 < dep v := by have := (t.up v hv h).2.2; omega

theorem Tree.dep_sub (t : Tree n adj par dep) {x : Nat} (hx : x ≠ 0) : ∀ j y, y < n → upn par j y = x → dep y = dep x + j
  | 0, y, _, h => by have : y = x := h
                     rw [this]; rfl
  | j + 1, y, hy, h => by
    have hy0 : y ≠ 0 := by
      intro e
      subst e
      rw [upn_zero t.par0] at h
      exact hx h.symm
    obtain ⟨h1, _, h3⟩ := t.up y hy hy0
    have := t.dep_sub hx j (par y) h1 h
    omega

/-- Exact distances. -/
structure Dist (n : Nat) (adj : Nat → Nat → Prop) (D : Nat → Nat → Nat) : Prop where
  wk : ∀ x y, x < n → y < n → Wk adj (D x y) x y
  lb : ∀ x y, x < n → y < n → LB adj (D x y) x y

theorem Dist.symm (hs : ∀ a b, adj a b → adj b a) {D : Nat → Nat → Nat} (d : Dist n adj D) {x y : Nat} (hx : x < n) (hy : y < n) : D x y = D y x := by
  have h1 := d.lb x y hx hy _ (Wk.symm hs (d.wk y x hy hx))
  have h2 := d.lb y x hy hx _ (Wk.symm hs (d.wk x y hx hy))
  omega

theorem Dist.self {D : Nat → Nat → Nat} (d : Dist n adj D) {x : Nat} (hx : x < n) : D x x = 0 := by
  have := d.lb x x hx hx 0 rfl
  omega

theorem Dist.tri {D : Nat → Nat → Nat} (d : Dist n adj D) {x y z : Nat} (hx : x < n) (hy : y < n) (hz : z < n) : D x z ≤ D x y + D y z :=
  d.lb x z hx hz _ (Wk.trans (d.wk x y hx hy) (d.wk y z hy hz))

/-- From the deeper device one step up. -/
theorem Tree.step (t : Tree n adj par dep) (hs : ∀ a b, adj a b → adj b a) {D : Nat → Nat → Nat} (d : Dist n adj D) {x y : Nat} (hx : x < n) (hy : y < n) (hx0 : x ≠ 0) (hne : y ≠ x) (hd : dep y ≤ dep x) : D x y = D (par x) y + 1 := by
  obtain ⟨h1, h2, _⟩ := t.up x hx hx0
  have hns : ¬ Sub par x y := by
    rintro ⟨j, hj⟩
    have := t.dep_sub hx0 j y hy hj
    have hj0 : j = 0 := by omega
    subst hj0
    exact hne hj
  have g1 : D y (par x) + 1 ≤ D y x := by
    obtain ⟨j, k1, k2, _⟩ := t.cross hns _ x (d.wk y x hy hx) (Sub.refl _ _)
    have := d.lb y (par x) hy h1 j k2
    omega
  have g2 : D y x ≤ D y (par x) + 1 := d.lb y x hy hx _ ((d.wk y (par x) hy h1).step h2)
  have e1 := d.symm hs hx hy
  have e2 := d.symm hs h1 hy
  omega

/-- THE FOUR POINTS. -/
theorem Tree.four (t : Tree n adj par dep) (hs : ∀ a b, adj a b → adj b a) {D : Nat → Nat → Nat} (d : Dist n adj D) : ∀ N x y z w, x < n → y < n → z < n → w < n → dep x + dep y + dep z + dep w ≤ N →
    D x y + D z w ≤ max (D x z + D y w) (D x w + D y z) := by
  have core : ∀ N x y z w, (∀ x y z w, x < n → y < n → z < n → w < n → dep x + dep y + dep z + dep w ≤ N → D x y + D z w ≤ max (D x z + D y w) (D x w + D y z)) →
      x < n → y < n → z < n → w < n → dep x + dep y + dep z + dep w ≤ N + 1 → x ≠ 0 → dep y ≤ dep x → dep z ≤ dep x → dep w ≤ dep x → D x y + D z w ≤ max (D x z + D y w) (D x w + D y z) := by
    intro N x y z w ih hx hy hz hw hN hx0 dy dz dw
    by_cases e1 : y = x
    · subst e1
      have h1 := d.self hy
      have h2 := d.tri hz hy hw
      have h3 := d.symm hs hz hy
      omega
    · by_cases e2 : z = x
      · subst e2
        have h1 := d.self hz
        have h2 := d.symm hs hy hz
        omega
      · by_cases e3 : w = x
        · subst e3
          have h2 := d.symm hs hy hw
          have h3 := d.symm hs hz hw
          omega
        · obtain ⟨h1, _, h3⟩ := t.up x hx hx0
          have s1 := t.step hs d hx hy hx0 e1 dy
          have s2 := t.step hs d hx hz hx0 e2 dz
          have s3 := t.step hs d hx hw hx0 e3 dw
          have := ih (par x) y z w h1 hy hz hw (by omega)
          omega
  intro N
  induction N with
  | zero =>
    intro x y z w hx hy hz hw hN
    have z0 : ∀ v, v < n → dep v = 0 → v = 0 := fun v hv hd => Classical.byContradiction fun h => by have := t.dep_pos hv h; omega
    have a1 := z0 x hx (by omega)
    have a2 := z0 y hy (by omega)
    have a3 := z0 z hz (by omega)
    have a4 := z0 w hw (by omega)
    subst a1 a2 a3 a4
    omega
  | succ N ih =>
    intro x y z w hx hy hz hw hN
    by_cases hN0 : dep x + dep y + dep z + dep w = 0
    · exact ih x y z w hx hy hz hw (by omega)
    have nz : ∀ v, 0 < dep v → v ≠ 0 := fun v h e => by subst e; have := t.dep0; omega
    have sxy := d.symm hs hx hy
    have szw := d.symm hs hz hw
    have sxz := d.symm hs hx hz
    have sxw := d.symm hs hx hw
    have syz := d.symm hs hy hz
    have syw := d.symm hs hy hw
    rcases (show (dep y ≤ dep x ∧ dep z ≤ dep x ∧ dep w ≤ dep x) ∨ (dep x ≤ dep y ∧ dep z ≤ dep y ∧ dep w ≤ dep y) ∨ (dep x ≤ dep z ∧ dep y ≤ dep z ∧ dep w ≤ dep z) ∨ (dep x ≤ dep w ∧ dep y ≤ dep w ∧ dep z ≤ dep w) from by omega) with ⟨b1, b2, b3⟩ | ⟨b1, b2, b3⟩ | ⟨b1, b2, b3⟩ | ⟨b1, b2, b3⟩
    · exact core N x y z w ih hx hy hz hw hN (nz x (by omega)) b1 b2 b3
    · have := core N y x z w ih hy hx hz hw (by omega) (nz y (by omega)) b1 b2 b3
      omega
    · have := core N z w x y ih hz hw hx hy (by omega) (nz z (by omega)) b3 b1 b2
      omega
    · have := core N w z x y ih hw hz hx hy (by omega) (nz w (by omega)) b3 b1 b2
      omega

/-- THE TWO SWEEPS: no two devices lie farther apart than some device from f, f farthest from 0. -/
theorem Tree.sweeps (t : Tree n adj par dep) (hs : ∀ a b, adj a b → adj b a) {D : Nat → Nat → Nat} (d : Dist n adj D) {f : Nat} (hf : f < n) (h0 : 0 < n) (hfar : ∀ v, v < n → D 0 v ≤ D 0 f) {M : Nat} (hM : ∀ v, v < n → D f v ≤ M) {x y : Nat} (hx : x < n) (hy : y < n) : D x y ≤ M := by
  have h1 := t.four hs d _ x y 0 f hx hy h0 hf (Nat.le_refl _)
  have h2 := hfar x hx
  have h3 := hfar y hy
  have h4 := hM x hx
  have h5 := hM y hy
  have s1 := d.symm hs hx h0
  have s2 := d.symm hs hy h0
  have s3 := d.symm hs hx hf
  have s4 := d.symm hs hy hf
  omega

theorem least_of {p : Nat → Prop} (h : ∃ k, p k) : ∃ k, p k ∧ ∀ j, p j → k ≤ j := by
  obtain ⟨k, hk⟩ := h
  induction k using Nat.strongRecOn with
  | _ k ih =>
    by_cases hm : ∃ j, j < k ∧ p j
    · obtain ⟨j, h1, h2⟩ := hm
      exact ih j h1 h2
    · exact ⟨k, hk, fun j hj => Nat.le_of_not_lt fun h => hm ⟨j, h, hj⟩⟩

theorem dist_exists (h : ∀ x y, x < n → y < n → ∃ k, Wk adj k x y) : ∃ D, Dist n adj D := by
  have h1 : ∀ x, ∃ f : Nat → Nat, ∀ y, x < n → y < n → Wk adj (f y) x y ∧ LB adj (f y) x y := by
    intro x
    refine Classical.axiomOfChoice (r := fun y k => x < n → y < n → Wk adj k x y ∧ LB adj k x y) fun y => ?_
    by_cases e : x < n ∧ y < n
    · obtain ⟨k, hk⟩ := least_of (h x y e.1 e.2)
      exact ⟨k, fun _ _ => hk⟩
    · exact ⟨0, fun a b => absurd ⟨a, b⟩ e⟩
  obtain ⟨D, hD⟩ := Classical.axiomOfChoice h1
  exact ⟨D, fun x y hx hy => (hD x y hx hy).1, fun x y hx hy => (hD x y hx hy).2⟩

end

/-! ### By counting: every cable is a parent's -/

theorem nodup_sub_len {α : Type} [DecidableEq α] : ∀ (T E : List α), T.Nodup → (∀ a, a ∈ T → a ∈ E) → T.length ≤ E.length
  | [], E, _, _ => Nat.zero_le _
  | a :: T, E, hd, hs => by
    obtain ⟨h1, h2⟩ := List.nodup_cons.1 hd
    have hm : a ∈ E := hs a (by simp)
    have := nodup_sub_len T (E.erase a) h2 (fun b hb => (List.mem_erase_of_ne (fun e => h1 (by rw [← e]; exact hb))).2 (hs b (by simp [hb])))
    have hl := List.length_erase_of_mem hm
    have := List.length_pos_of_mem hm
    simp only [List.length_cons]
    omega

theorem sub_of_len {α : Type} [DecidableEq α] {T E : List α} (hd : T.Nodup) (hs : ∀ a, a ∈ T → a ∈ E) (hl : E.length ≤ T.length) : ∀ a, a ∈ E → a ∈ T := by
  intro a ha
  refine Classical.byContradiction fun hn => ?_
  have := nodup_sub_len (a :: T) E (List.nodup_cons.2 ⟨hn, hd⟩) (fun b hb => by
    rcases List.mem_cons.1 hb with e | e
    · subst e; exact ha
    · exact hs b e)
  simp only [List.length_cons] at this
  omega

/-- All ports as pairs. -/
def ends (F P : Nat → Nat) : Nat → List (Nat × Nat)
  | 0 => []
  | u + 1 => ends F P u ++ (List.range (F (u + 1) - F u)).map (fun i => (u, P (F u + i)))

theorem ends_length {F P : Nat → Nat} {n : Nat} (h0 : F 0 = 0) : ∀ u, (∀ i, i < u → F i ≤ F (i + 1)) → (ends F P u).length = F u
  | 0, _ => by simp [ends, h0]
  | u + 1, h => by
    have ih := ends_length (P := P) (n := n) h0 u (fun i hi => h i (by omega))
    have := h u (by omega)
    simp only [ends, List.length_append, ih, List.length_map, List.length_range]
    omega

theorem ends_mem {F P : Nat → Nat} {n : Nat} : ∀ u, ∀ a b, Adj n F P a b → a < u → (a, b) ∈ ends F P u
  | 0, a, b, _, h => absurd h (by omega)
  | u + 1, a, b, hab, h => by
    simp only [ends, List.mem_append]
    by_cases e : a = u
    · subst e
      obtain ⟨_, k, h1, h2, rfl⟩ := hab
      refine .inr (List.mem_map.2 ⟨k - F a, List.mem_range.2 (by omega), ?_⟩)
      simp only [Prod.mk.injEq, true_and]
      congr 1
      omega
    · exact .inl (ends_mem u a b hab (by omega))

theorem tree_of {n m : Nat} {F P : Nat → Nat} (sg : SG n m F P) (hm : m = 2 * (n - 1)) {d0 : Nat → Int} (b : BRes n F P 0 d0) (hall : ∀ v, v < n → 0 ≤ d0 v) :
    ∃ par, Tree n (Adj n F P) par (fun v => (d0 v).toNat) := by
  -- a parent for each device but 0
  have h1 : ∀ v, ∃ p, (v = 0 → p = 0) ∧ (v < n → v ≠ 0 → p < n ∧ Adj n F P p v ∧ (d0 p).toNat + 1 = (d0 v).toNat) := by
    intro v
    by_cases e : v < n ∧ v ≠ 0
    · obtain ⟨hv, hv0⟩ := e
      have hw := (b.cases v hv).resolve_left (by have := hall v hv; omega)
      have hp : 0 < (d0 v).toNat := by
        rcases Nat.eq_zero_or_pos (d0 v).toNat with e | e
        · rw [e] at hw
          exact absurd (show 0 = v from hw.2).symm hv0
        · exact e
      obtain ⟨k, hk⟩ : ∃ k, (d0 v).toNat = k + 1 := ⟨(d0 v).toNat - 1, by omega⟩
      have hw2 := hw.2
      rw [hk] at hw2
      rcases hw2 with hw2 | ⟨z, hz, ha⟩
      · have := (b.least sg sg.pos hw2).2.2
        have := hall v hv
        omega
      · have g := b.least sg sg.pos hz
        have st := b.step z v g.1 g.2.1 ha
        refine ⟨z, fun e => absurd e hv0, fun _ _ => ⟨g.1, ha, ?_⟩⟩
        have := hall v hv
        omega
    · exact ⟨0, fun _ => rfl, fun a c => absurd ⟨a, c⟩ e⟩
  obtain ⟨par, hpar⟩ := Classical.axiomOfChoice h1
  have hup := fun v hv hv0 => (hpar v).2 hv hv0
  refine ⟨par, (hpar 0).1 rfl, by rw [b.s0]; rfl, hup, ?_⟩
  -- the parents' cables, both ways
  have hV : ∀ v, v ∈ (List.range (n - 1)).map (· + 1) → v < n ∧ v ≠ 0 := by
    intro v hv
    obtain ⟨i, hi, rfl⟩ := List.mem_map.1 hv
    have := List.mem_range.1 hi
    omega
  have hVn : ((List.range (n - 1)).map (· + 1)).Nodup := List.Pairwise.map (fun i => i + 1) (fun a c h e => h (by omega)) List.nodup_range
  have hd1 : (((List.range (n - 1)).map (· + 1)).map (fun v => (par v, v))).Nodup := List.Pairwise.map (fun v => (par v, v)) (fun a c h e => h (by simp only [Prod.mk.injEq] at e; exact e.2)) hVn
  have hd2 : (((List.range (n - 1)).map (· + 1)).map (fun v => (v, par v))).Nodup := List.Pairwise.map (fun v => (v, par v)) (fun a c h e => h (by simp only [Prod.mk.injEq] at e; exact e.1)) hVn
  have hd : (((List.range (n - 1)).map (· + 1)).map (fun v => (par v, v)) ++ ((List.range (n - 1)).map (· + 1)).map (fun v => (v, par v))).Nodup := by
    rw [List.nodup_append]
    refine ⟨hd1, hd2, ?_⟩
    intro x hx y hy e
    obtain ⟨v, hv, rfl⟩ := List.mem_map.1 hx
    obtain ⟨w, hw, rfl⟩ := List.mem_map.1 hy
    simp only [Prod.mk.injEq] at e
    have a1 := (hup v (hV v hv).1 (hV v hv).2).2.2
    have a2 := (hup w (hV w hw).1 (hV w hw).2).2.2
    rw [e.1] at a1
    rw [← e.2] at a2
    omega
  have hsub : ∀ x, x ∈ ((List.range (n - 1)).map (· + 1)).map (fun v => (par v, v)) ++ ((List.range (n - 1)).map (· + 1)).map (fun v => (v, par v)) → x ∈ ends F P n := by
    intro x hx
    rcases List.mem_append.1 hx with hx | hx
    · obtain ⟨v, hv, rfl⟩ := List.mem_map.1 hx
      obtain ⟨g1, g2, _⟩ := hup v (hV v hv).1 (hV v hv).2
      exact ends_mem n _ _ g2 g1
    · obtain ⟨v, hv, rfl⟩ := List.mem_map.1 hx
      obtain ⟨g1, g2, _⟩ := hup v (hV v hv).1 (hV v hv).2
      exact ends_mem n _ _ (sg.symm _ _ g2) (hV v hv).1
  have hlen := ends_length (F := F) (P := P) (n := n) sg.f0 n sg.mono
  have hall2 := sub_of_len hd hsub (by rw [hlen, sg.fn, hm]; simp only [List.length_append, List.length_map, List.length_range]; omega)
  intro a c hac
  have := hall2 (a, c) (ends_mem n a c hac hac.1)
  rcases List.mem_append.1 this with h | h
  · obtain ⟨v, hv, e⟩ := List.mem_map.1 h
    simp only [Prod.mk.injEq] at e
    obtain ⟨rfl, rfl⟩ := e
    exact .inl ⟨rfl, (hV v hv).2⟩
  · obtain ⟨v, hv, e⟩ := List.mem_map.1 h
    simp only [Prod.mk.injEq] at e
    obtain ⟨rfl, rfl⟩ := e
    exact .inr ⟨rfl, (hV v hv).2⟩

end Go.Proofs.Qxb6600523a
