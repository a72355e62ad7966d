/-
  Walks in a network; what a search breadth first keeps up: no Go in sight.
-/
import Derived.Test.Qxb6600523aDefs
namespace Go.Proofs.Qxb6600523a

/-- A walk of at most k steps leads from x to y. -/
def Wk (adj : Nat → Nat → Prop) : Nat → Nat → Nat → Prop
  | 0, x, y => x = y
  | k + 1, x, y => Wk adj k x y ∨ ∃ z, Wk adj k x z ∧ adj z y

section
variable {adj : Nat → Nat → Prop}

theorem Wk.refl (x : Nat) : ∀ k, Wk adj k x x
  | 0 => rfl
  | k + 1 => .inl (Wk.refl x k)

theorem Wk.succ {k x y : Nat} (h : Wk adj k x y) : Wk adj (k + 1) x y := .inl h

theorem Wk.mono {x y : Nat} {j k : Nat} (h : Wk adj j x y) (hjk : j ≤ k) : Wk adj k x y := by
  induction k with
  | zero => have : j = 0 := by omega
            subst this; exact h
  | succ k ih =>
    by_cases e : j = k + 1
    · subst e; exact h
    · exact .inl (ih (by omega))

theorem Wk.step {k x y z : Nat} (h : Wk adj k x y) (a : adj y z) : Wk adj (k + 1) x z := .inr ⟨y, h, a⟩

theorem Wk.trans {x y : Nat} {j : Nat} (h : Wk adj j x y) : ∀ {k z : Nat}, Wk adj k y z → Wk adj (j + k) x z := by
  intro k
  induction k with
  | zero => intro z hk; have : y = z := hk
            subst this; exact h
  | succ k ih =>
    intro z hk
    rcases hk with hk | ⟨t, hk, ha⟩
    · exact .inl (ih hk)
    · exact .inr ⟨t, ih hk, ha⟩

theorem Wk.symm (hs : ∀ a b, adj a b → adj b a) {x y k : Nat} (h : Wk adj k x y) : Wk adj k y x := by
  induction k generalizing y with
  | zero => exact Eq.symm (show x = y from h)
  | succ k ih =>
    rcases h with h | ⟨t, h, ha⟩
    · exact .inl (ih h)
    · have h1 : Wk adj 1 y t := .inr ⟨y, rfl, hs _ _ ha⟩
      have := Wk.trans h1 (ih h)
      rw [Nat.add_comm] at this
      exact this
end

/-- Device v is at the other end of one of u's ports. -/
def Adj (n : Nat) (F P : Nat → Nat) (u v : Nat) : Prop := u < n ∧ ∃ k, F u ≤ k ∧ k < F (u + 1) ∧ P k = v

theorem SG.symm {n m : Nat} {F P : Nat → Nat} (h : SG n m F P) (u v : Nat) (a : Adj n F P u v) : Adj n F P v u := by
  obtain ⟨hu, k, h1, h2, rfl⟩ := a
  obtain ⟨k3, g1, g2, g3⟩ := h.back u k hu h1 h2
  exact ⟨h.lt u k hu h1 h2, k3, g1, g2, g3⟩

theorem SG.adj_lt {n m : Nat} {F P : Nat → Nat} (h : SG n m F P) {u v : Nat} (a : Adj n F P u v) : v < n := by
  obtain ⟨hu, k, h1, h2, rfl⟩ := a
  exact h.lt u k hu h1 h2

theorem SG.adj_ne {n m : Nat} {F P : Nat → Nat} (h : SG n m F P) {u v : Nat} (a : Adj n F P u v) : v ≠ u := by
  obtain ⟨hu, k, h1, h2, rfl⟩ := a
  exact h.ne u k hu h1 h2

theorem SG.fmono {n m : Nat} {F P : Nat → Nat} (h : SG n m F P) (j : Nat) : ∀ i, i ≤ j → j ≤ n → F i ≤ F j := by
  induction j with
  | zero => intro i hi _; have : i = 0 := by omega
            subst this; exact Nat.le_refl _
  | succ j ih =>
    intro i hi hj
    by_cases e : i = j + 1
    · subst e; exact Nat.le_refl _
    · exact Nat.le_trans (ih i (by omega) (by omega)) (h.mono j (by omega))

theorem SG.fle {n m : Nat} {F P : Nat → Nat} (h : SG n m F P) (i : Nat) (hi : i ≤ n) : F i ≤ m := by
  have := h.fmono n i hi (Nat.le_refl _)
  rw [h.fn] at this
  exact this

/-- A list without repeats, of numbers below n, holds at most n. -/
theorem nodup_le : ∀ (n : Nat) (l : List Nat), l.Nodup → (∀ v ∈ l, v < n) → l.length ≤ n
  | 0, l, _, h => by
    cases l with
    | nil => simp
    | cons a l => exact absurd (h a (by simp)) (by omega)
  | n + 1, l, hd, h => by
    have h1 := nodup_le n (l.erase n) (hd.erase n) (fun v hv => by
      have := (hd.mem_erase_iff).1 hv
      have := h v this.2
      omega)
    have h2 : l.length ≤ (l.erase n).length + 1 := by
      rw [List.length_erase]
      split <;> omega
    omega

/-- What a search breadth first has laid out so far: the distances D, the queue Q. -/
structure BI (n : Nat) (F P : Nat → Nat) (s : Nat) (D : Nat → Int) (Q : List Nat) : Prop where
  nodup : Q.Nodup
  lt : ∀ v ∈ Q, v < n
  s0 : D s = 0
  smem : s ∈ Q
  pos : ∀ v ∈ Q, 0 ≤ D v
  neg : ∀ v, v < n → v ∉ Q → D v = -1
  wk : ∀ v ∈ Q, Wk (Adj n F P) (D v).toNat s v
  sorted : ∀ i j, i ≤ j → j < Q.length → D (Q.getD i 0) ≤ D (Q.getD j 0)
  small : ∀ i, i < Q.length → D (Q.getD i 0) ≤ i

/-- .. standing at place h of the queue: nothing lies more than one step farther than the device there; the ports of those before it are followed. -/
structure BH (n : Nat) (F P : Nat → Nat) (s : Nat) (D : Nat → Int) (Q : List Nat) (h : Nat) : Prop extends BI n F P s D Q where
  hle : h ≤ Q.length
  near : h < Q.length → ∀ v ∈ Q, D v ≤ D (Q.getD h 0) + 1
  proc : ∀ i, i < h → ∀ v, Adj n F P (Q.getD i 0) v → v ∈ Q ∧ D v ≤ D (Q.getD i 0) + 1

theorem getD_get {Q : List Nat} {i : Nat} (h : i < Q.length) : Q.getD i 0 = Q[i] := by simp [List.getD, h]

theorem getD_mem {Q : List Nat} {i : Nat} (h : i < Q.length) : Q.getD i 0 ∈ Q := by
  rw [getD_get h]
  exact List.getElem_mem h

theorem getD_append_left' {Q : List Nat} {i v : Nat} (h : i < Q.length) : (Q ++ [v]).getD i 0 = Q.getD i 0 := by
  simp [List.getD, List.getElem?_append_left h]

theorem getD_append_right' {Q : List Nat} {v : Nat} : (Q ++ [v]).getD Q.length 0 = v := by
  simp [List.getD]

theorem BH.start {n : Nat} {F P : Nat → Nat} {s : Nat} (hs : s < n) {D : Nat → Int} (h0 : D s = 0) (h1 : ∀ v, v < n → v ≠ s → D v = -1) : BH n F P s D [s] 0 where
  nodup := by simp
  lt := by simp [hs]
  s0 := h0
  smem := by simp
  pos := by simp [h0]
  neg := fun v hv hm => h1 v hv (by simpa using hm)
  wk := by simp [h0, Wk]
  sorted := fun i j hi hj => by
    have : j = 0 := by simpa using hj
    have : i = 0 := by omega
    subst_vars
    exact Int.le_refl _
  small := fun i hi => by
    have : i = 0 := by simpa using hi
    subst this
    simp [h0]
  hle := by simp
  near := fun _ v hv => by
    have : v = s := by simpa using hv
    subst this
    simp [h0]
  proc := fun i hi => absurd hi (by omega)

/-- A device not met before joins the queue. -/
theorem BH.push {n : Nat} {F P : Nat → Nat} {s : Nat} {D : Nat → Int} {Q : List Nat} {h : Nat} (b : BH n F P s D Q h) (hh : h < Q.length) {v : Nat} (hv : v < n) (hm : v ∉ Q) (ha : Adj n F P (Q.getD h 0) v) :
    BH n F P s (fun x => if x = v then D (Q.getD h 0) + 1 else D x) (Q ++ [v]) h := by
  have hum := getD_mem hh
  have hne : ∀ x ∈ Q, x ≠ v := fun x hx e => hm (e ▸ hx)
  have eD : ∀ x ∈ Q, (if x = v then D (Q.getD h 0) + 1 else D x) = D x := fun x hx => if_neg (hne x hx)
  have eG : ∀ i, i < Q.length → (if (Q ++ [v]).getD i 0 = v then D (Q.getD h 0) + 1 else D ((Q ++ [v]).getD i 0)) = D (Q.getD i 0) := by
    intro i hi
    rw [getD_append_left' hi]
    exact eD _ (getD_mem hi)
  have eL : (if (Q ++ [v]).getD Q.length 0 = v then D (Q.getD h 0) + 1 else D ((Q ++ [v]).getD Q.length 0)) = D (Q.getD h 0) + 1 := by
    rw [getD_append_right']
    simp
  refine ⟨⟨?_, ?_, ?_, ?_, ?_, ?_, ?_, ?_, ?_⟩, ?_, ?_, ?_⟩
  · rw [List.nodup_append]
    exact ⟨b.nodup, by simp, fun x hx y hy e => by
      have : y = v := by simpa using hy
      subst this
      exact hm (e ▸ hx)⟩
  · intro x hx
    rcases List.mem_append.1 hx with hx | hx
    · exact b.lt x hx
    · have : x = v := by simpa using hx
      subst this; exact hv
  · rw [eD s b.smem]; exact b.s0
  · exact List.mem_append.2 (.inl b.smem)
  · intro x hx
    rcases List.mem_append.1 hx with hx | hx
    · rw [eD x hx]; exact b.pos x hx
    · have : x = v := by simpa using hx
      subst this
      have := b.pos _ hum
      simp only [if_true]
      omega
  · intro x hx hnm
    have h1 : x ∉ Q := fun e => hnm (List.mem_append.2 (.inl e))
    have h2 : x ≠ v := fun e => hnm (List.mem_append.2 (.inr (by simp [e])))
    rw [if_neg h2]
    exact b.neg x hx h1
  · intro x hx
    rcases List.mem_append.1 hx with hx | hx
    · rw [eD x hx]; exact b.wk x hx
    · have : x = v := by simpa using hx
      subst this
      rw [if_pos rfl]
      have h1 := b.wk _ hum
      have h2 := b.pos _ hum
      have e : (D (Q.getD h 0) + 1).toNat = (D (Q.getD h 0)).toNat + 1 := by omega
      rw [e]
      exact h1.step ha
  · intro i j hij hj
    rw [List.length_append] at hj
    simp only [List.length_cons, List.length_nil] at hj
    by_cases e1 : j < Q.length
    · rw [eG i (by omega), eG j e1]
      exact b.sorted i j hij e1
    · have : j = Q.length := by omega
      subst this
      rw [eL]
      by_cases e2 : i < Q.length
      · rw [eG i e2]
        exact b.near hh _ (getD_mem e2)
      · have : i = Q.length := by omega
        subst this
        rw [eL]
        exact Int.le_refl _
  · intro i hi
    rw [List.length_append] at hi
    simp only [List.length_cons, List.length_nil] at hi
    by_cases e1 : i < Q.length
    · rw [eG i e1]; exact b.small i e1
    · have : i = Q.length := by omega
      subst this
      rw [eL]
      have := b.small h hh
      omega
  · rw [List.length_append]; have := b.hle; omega
  · intro _ x hx
    rw [eG h hh]
    rcases List.mem_append.1 hx with hx | hx
    · rw [eD x hx]; exact b.near hh x hx
    · have : x = v := by simpa using hx
      subst this
      rw [if_pos rfl]
      exact Int.le_refl _
  · intro i hi x hx
    have hiQ : i < Q.length := by have := b.hle; omega
    rw [eG i hiQ]
    rw [getD_append_left' hiQ] at hx
    obtain ⟨h1, h2⟩ := b.proc i hi x hx
    exact ⟨List.mem_append.2 (.inl h1), by rw [eD x h1]; exact h2⟩

/-- All ports of the device at place h are followed. -/
theorem BH.next {n : Nat} {F P : Nat → Nat} {s : Nat} {D : Nat → Int} {Q : List Nat} {h : Nat} (b : BH n F P s D Q h) (hh : h < Q.length)
    (hp : ∀ k, F (Q.getD h 0) ≤ k → k < F (Q.getD h 0 + 1) → P k ∈ Q) : BH n F P s D Q (h + 1) where
  toBI := b.toBI
  hle := hh
  near := fun h1 v hv => by
    have h2 := b.near hh v hv
    have h3 := b.sorted h (h + 1) (by omega) h1
    omega
  proc := fun i hi v hv => by
    by_cases e : i = h
    · subst e
      obtain ⟨_, k, h1, h2, rfl⟩ := hv
      have := hp k h1 h2
      exact ⟨this, b.near hh _ this⟩
    · exact b.proc i (by omega) v hv

/-- What the distances are in the end. -/
structure BRes (n : Nat) (F P : Nat → Nat) (s : Nat) (D : Nat → Int) : Prop where
  s0 : D s = 0
  cases : ∀ v, v < n → D v = -1 ∨ (0 ≤ D v ∧ Wk (Adj n F P) (D v).toNat s v)
  step : ∀ u v, u < n → 0 ≤ D u → Adj n F P u v → 0 ≤ D v ∧ D v ≤ D u + 1
  le : ∀ v, v < n → D v ≤ n

theorem BH.done {n : Nat} {F P : Nat → Nat} {s : Nat} {D : Nat → Int} {Q : List Nat} {h : Nat} (b : BH n F P s D Q h) (hh : Q.length ≤ h) : BRes n F P s D where
  s0 := b.s0
  cases := fun v hv => by
    by_cases e : v ∈ Q
    · exact .inr ⟨b.pos v e, b.wk v e⟩
    · exact .inl (b.neg v hv e)
  step := fun u v hu h0 ha => by
    have e : u ∈ Q := by
      by_cases e : u ∈ Q
      · exact e
      · have := b.neg u hu e; omega
    obtain ⟨i, hi, rfl⟩ := List.mem_iff_getElem.1 e
    have hg : Q.getD i 0 = Q[i] := getD_get hi
    have := b.proc i (by omega) v (by rw [hg]; exact ha)
    rw [hg] at this
    exact ⟨b.pos v this.1, this.2⟩
  le := fun v hv => by
    by_cases e : v ∈ Q
    · obtain ⟨i, hi, rfl⟩ := List.mem_iff_getElem.1 e
      have hg : Q.getD i 0 = Q[i] := getD_get hi
      have := b.small i hi
      rw [hg] at this
      have := nodup_le n Q b.nodup b.lt
      omega
    · have := b.neg v hv e; omega

/-- The distances are the least. -/
theorem BRes.least {n m : Nat} {F P : Nat → Nat} (sg : SG n m F P) {s : Nat} (hs : s < n) {D : Nat → Int} (b : BRes n F P s D) {k v : Nat} (h : Wk (Adj n F P) k s v) : v < n ∧ 0 ≤ D v ∧ D v ≤ k := by
  induction k generalizing v with
  | zero =>
    have : s = v := h
    subst this
    exact ⟨hs, by rw [b.s0]; omega, by rw [b.s0]; omega⟩
  | succ k ih =>
    rcases h with h | ⟨t, h, ha⟩
    · obtain ⟨h1, h2, h3⟩ := ih h
      exact ⟨h1, h2, by omega⟩
    · obtain ⟨h1, h2, h3⟩ := ih h
      obtain ⟨h4, h5⟩ := b.step t v h1 h2 ha
      exact ⟨sg.adj_lt ha, h4, by omega⟩

end Go.Proofs.Qxb6600523a
