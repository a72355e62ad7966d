/-
  The walk depth first over any network, and over a tree: what its end gives. No Go in sight.
-/
import Derived.Test.Qxb6600523aTree
namespace Go.Proofs.Qxb6600523a

/-- What each step of the walk hands on. -/
structure Runs (n : Nat) (F P : Nat → Nat) (J : St → Prop) : Prop where
  safe : ∀ s, J s → ∃ fs home cnt, DI n F P s fs home cnt
  start : J (St.start F)
  scan : ∀ s d nx r, J s → s.path = (d, nx) :: r → nx < F (d + 1) → 0 < s.place (P nx) → J (s.scan d nx r (P nx))
  push : ∀ s d nx r, J s → s.path = (d, nx) :: r → nx < F (d + 1) → s.place (P nx) = 0 → J (s.push F d nx r (P nx))
  merge : ∀ s c nx u nu r, J s → s.path = (c, nx) :: (u, nu) :: r → F (c + 1) ≤ nx → s.low c < s.place u → J (s.merge c u ((u, nu) :: r))
  close : ∀ s c nx u nu r L op a b, J s → s.path = (c, nx) :: (u, nu) :: r → F (c + 1) ≤ nx → s.place u ≤ s.low c → s.opens = L ++ c :: op → c ∉ L → Top2 s.chain (L ++ [c]) a b → J (s.close c u ((u, nu) :: r) op ((L.length + 2) / 2) a b)

theorem split_unique {c : Nat} : ∀ {A A' B B' : List Nat}, A ++ c :: B = A' ++ c :: B' → c ∉ A → c ∉ A' → A = A' ∧ B = B'
  | [], [], B, B', h, _, _ => by simpa using h
  | [], a :: A', B, B', h, _, h2 => by
    simp only [List.nil_append, List.cons_append, List.cons.injEq] at h
    exact absurd (by simp [h.1]) h2
  | a :: A, [], B, B', h, h1, _ => by
    simp only [List.nil_append, List.cons_append, List.cons.injEq] at h
    exact absurd (by simp [h.1]) h1
  | a :: A, a' :: A', B, B', h, h1, h2 => by
    simp only [List.cons_append, List.cons.injEq] at h
    obtain ⟨rfl, h⟩ := h
    obtain ⟨rfl, rfl⟩ := split_unique h (fun e => h1 (by simp [e])) (fun e => h2 (by simp [e]))
    exact ⟨rfl, rfl⟩

section
variable {n m : Nat} {F P : Nat → Nat}

/-- The frames, where the path has two devices. -/
theorem DI.top2 {s : St} {fs : List (Nat × List Nat)} {home cnt : Nat → Nat} (h : DI n F P s fs home cnt) {c nx u nu : Nat} {r : List (Nat × Nat)} (hp : s.path = (c, nx) :: (u, nu) :: r) :
    ∃ Hc Hu fr, fs = (c, Hc) :: (u, Hu) :: fr ∧ r.map Prod.fst = fr.map Prod.fst := by
  obtain ⟨Hc, fr, rfl, hr⟩ := h.top hp
  match fr, hr with
  | (u', Hu) :: fr, hr =>
    simp only [List.map_cons, List.cons.injEq] at hr
    obtain ⟨rfl, hr⟩ := hr
    exact ⟨Hc, Hu, fr, rfl, hr⟩

theorem DI.popped {s : St} {home cnt : Nat → Nat} {c u : Nat} {Hc Hu : List Nat} {fr : List (Nat × List Nat)} (h : DI n F P s ((c, Hc) :: (u, Hu) :: fr) home cnt) {L op : List Nat} (ho : s.opens = L ++ c :: op) (hL : c ∉ L) : L = Hc ∧ op = flat ((u, Hu) :: fr) := by
  have h1 := h.opn
  rw [ho] at h1
  have h2 : c ∉ Hc := by
    have := h.nodup
    simp only [flat] at this
    rw [List.nodup_append] at this
    exact fun e => this.2.2 c e c (by simp) rfl
  exact split_unique (A := L) (A' := Hc) (B := op) (B' := flat ((u, Hu) :: fr)) (by simpa [flat] using h1) hL h2

theorem runs_any (sg : SG n m F P) : Runs n F P (fun s => ∃ fs home cnt, DI n F P s fs home cnt) where
  safe := fun s h => h
  start := ⟨_, _, _, DI.start sg⟩
  scan := fun s d nx r ⟨fs, home, cnt, h⟩ hp h1 h2 => ⟨_, _, _, h.scan sg hp h1 h2⟩
  push := fun s d nx r ⟨fs, home, cnt, h⟩ hp h1 h2 => ⟨_, _, _, h.push sg hp h1 h2⟩
  merge := fun s c nx u nu r ⟨fs, home, cnt, h⟩ hp h1 h2 => by
    obtain ⟨Hc, Hu, fr, rfl, _⟩ := h.top2 hp
    exact ⟨_, _, _, h.merge sg hp h1 h2⟩
  close := fun s c nx u nu r L op a b ⟨fs, home, cnt, h⟩ hp h1 h2 ho hL ht => by
    obtain ⟨Hc, Hu, fr, rfl, _⟩ := h.top2 hp
    obtain ⟨rfl, rfl⟩ := h.popped ho hL
    exact ⟨_, _, _, h.close sg hp h1 h2 ht⟩

/-! ### Over a tree -/

/-- Of the path: each device's parent stands below it; what hangs from the parent came before it. -/
def PathPar (n : Nat) (par : Nat → Nat) (place home : Nat → Nat) : List Nat → Prop
  | c :: u :: r => u = par c ∧ c ≠ 0 ∧ (∀ v, v < n → 0 < place v → home v = u → place v < place c) ∧ PathPar n par place home (u :: r)
  | _ => True

structure TI (n : Nat) (F P : Nat → Nat) (par : Nat → Nat) (s : St) (fs : List (Nat × List Nat)) (home : Nat → Nat) : Prop where
  noH : ∀ f, f ∈ fs → f.2 = []
  pp : PathPar n par s.place home (fs.map Prod.fst)
  parpl : ∀ v, v < n → v ≠ 0 → 0 < s.place v → 0 < s.place (par v) ∧ s.place (par v) < s.place v
  sub : ∀ v, v < n → 0 < s.place v → Sub par (home v) v
  real : ∀ o, o ∈ fs.map Prod.fst → ∃ x, x < n ∧ 0 < s.place x ∧ home x = o ∧ LB (Adj n F P) (s.chain o) o x
  breal : ∃ x y, x < n ∧ y < n ∧ LB (Adj n F P) s.bound x y

theorem PathPar.congr {par place home place' home' : Nat → Nat} : ∀ {l : List Nat}, PathPar n par place home l → (∀ c, c ∈ l → place' c = place c) → (∀ u, u ∈ l.tail → ∀ v, v < n → 0 < place' v → home' v = u → 0 < place v ∧ home v = u ∧ place' v = place v) → PathPar n par place' home' l
  | [], _, _, _ => trivial
  | [_], _, _, _ => trivial
  | c :: u :: r, h, h1, h2 => by
    obtain ⟨a, b, d, e⟩ := h
    refine ⟨a, b, fun v hv hp hh => ?_, PathPar.congr e (fun c hc => h1 c (List.mem_cons_of_mem _ hc)) (fun u' hu => h2 u' (by simp only [List.tail_cons] at hu ⊢; exact List.mem_cons_of_mem _ hu))⟩
    obtain ⟨g1, g2, g3⟩ := h2 u (by simp) v hv hp hh
    rw [g3, h1 c (by simp)]
    exact d v hv g1 g2

theorem flat_noH : ∀ {fs : List (Nat × List Nat)}, (∀ f, f ∈ fs → f.2 = []) → flat fs = fs.map Prod.fst
  | [], _ => rfl
  | (p, H) :: r, h => by
    have h1 : H = [] := h (p, H) (by simp)
    subst h1
    simp only [flat, List.nil_append, List.map_cons]
    rw [flat_noH (fun f hf => h f (by simp [hf]))]

variable {par dep : Nat → Nat}

theorem TI.up_le (t : Tree n (Adj n F P) par dep) {s : St} {fs : List (Nat × List Nat)} {home : Nat → Nat} (h : TI n F P par s fs home) : ∀ j v, v < n → 0 < s.place v → upn par j v < n ∧ 0 < s.place (upn par j v) ∧ s.place (upn par j v) ≤ s.place v
  | 0, v, hv, hp => ⟨hv, hp, Nat.le_refl _⟩
  | j + 1, v, hv, hp => by
    by_cases e : v = 0
    · subst e
      have := upn_zero t.par0 (j + 1)
      rw [this]
      exact ⟨hv, hp, Nat.le_refl _⟩
    · obtain ⟨h1, h2⟩ := h.parpl v hv e hp
      obtain ⟨g1, g2, g3⟩ := TI.up_le t h j (par v) (t.up v hv e).1 h1
      exact ⟨g1, g2, by simp only [upn]; omega⟩

/-- What hangs below c came to after c. -/
theorem TI.sub_le (t : Tree n (Adj n F P) par dep) {s : St} {fs : List (Nat × List Nat)} {home : Nat → Nat} (h : TI n F P par s fs home) {c v : Nat} (hv : v < n) (hp : 0 < s.place v) (hs : Sub par c v) : s.place c ≤ s.place v := by
  obtain ⟨j, rfl⟩ := hs
  exact (h.up_le t j v hv hp).2.2

theorem TI.start (_sg : SG n m F P) : TI n F P par (St.start F) [(0, [])] (fun v => v) where
  noH := by simp
  pp := trivial
  parpl := fun v _ h0 hp => by simp [St.start, upd, h0] at hp
  sub := fun v _ _ => Sub.refl _ _
  real := fun o ho => by
    have : o = 0 := by simpa using ho
    subst this
    exact ⟨0, _sg.pos, by simp [St.start, upd], rfl, fun j _ => Nat.zero_le _⟩
  breal := ⟨0, 0, _sg.pos, _sg.pos, fun j _ => Nat.zero_le _⟩

theorem TI.scan {s : St} {fs : List (Nat × List Nat)} {home : Nat → Nat} (h : TI n F P par s fs home) {d nx p : Nat} {r : List (Nat × Nat)} : TI n F P par (s.scan d nx r p) fs home :=
  ⟨h.noH, h.pp, h.parpl, h.sub, h.real, h.breal⟩

theorem TI.push (sg : SG n m F P) (t : Tree n (Adj n F P) par dep) {s : St} {fs : List (Nat × List Nat)} {home cnt : Nat → Nat} (hD : DI n F P s fs home cnt) (h : TI n F P par s fs home) {d nx : Nat} {r : List (Nat × Nat)} (hp : s.path = (d, nx) :: r) (hnx : nx < F (d + 1)) (hpl : s.place (P nx) = 0) :
    TI n F P par (s.push F d nx r (P nx)) ((P nx, []) :: fs) (upd home (P nx) (P nx)) := by
  obtain ⟨H, fr, hfs, hr⟩ := hD.top hp
  obtain ⟨hdn, hF1, hF2, hF3⟩ := hD.ports d nx (by rw [hp]; simp)
  have hadj : Adj n F P d (P nx) := ⟨hdn, nx, hF1, hnx, rfl⟩
  have hpn := sg.adj_lt hadj
  have hdpl : 0 < s.place d := (hD.pl d (by rw [hfs]; simp [flat])).2
  have hpos : ∀ v, 0 < s.place v → v ≠ P nx := fun v hv e => by subst e; omega
  have hpos' : ∀ v, v ≠ P nx → (s.push F d nx r (P nx)).place v = s.place v := fun v hv => upd_other _ _ hv
  have hself : (s.push F d nx r (P nx)).place (P nx) = s.placed + 1 := upd_same _ _ _
  have hpar : d = par (P nx) ∧ P nx ≠ 0 := by
    rcases t.edge d (P nx) hadj with e | ⟨e, e0⟩
    · exact e
    · have := (h.parpl d hdn e0 hdpl).1
      rw [← e] at this
      omega
  have hfl : ∀ a, a ∈ fs.map Prod.fst → a ≠ P nx := fun a ha => hpos a (hD.pl a (mem_flat_fst ha)).2
  refine ⟨?_, ?_, ?_, ?_, ?_, h.breal⟩
  · intro f hf
    rcases List.mem_cons.1 hf with e | e
    · subst e; rfl
    · exact h.noH f e
  · have h2 : PathPar n par (s.push F d nx r (P nx)).place (upd home (P nx) (P nx)) (fs.map Prod.fst) := by
      refine h.pp.congr (fun c hc => hpos' c (hfl c hc)) ?_
      intro u hu v hv hv0 hh
      have hu := List.mem_of_mem_tail hu
      by_cases e : v = P nx
      · subst e
        rw [upd_same] at hh
        exact absurd hh.symm (hfl u hu)
      · rw [upd_other _ _ e] at hh
        rw [hpos' v e] at hv0 ⊢
        exact ⟨hv0, hh, rfl⟩
    rw [hfs] at h2 ⊢
    refine ⟨hpar.1, hpar.2, ?_, h2⟩
    intro v hv hv0 hh
    rw [hself]
    by_cases e : v = P nx
    · subst e
      rw [upd_same] at hh
      exact absurd hh.symm (hfl d (by rw [hfs]; simp))
    · rw [hpos' v e]
      have := hD.ple v
      omega
  · intro v hv hv0 hvp
    by_cases e : v = P nx
    · subst e
      rw [← hpar.1, hself, hpos' d (hpos d hdpl)]
      have := hD.ple d
      omega
    · rw [hpos' v e] at hvp ⊢
      obtain ⟨g1, g2⟩ := h.parpl v hv hv0 hvp
      rw [hpos' _ (hpos _ g1)]
      exact ⟨g1, g2⟩
  · intro v hv hvp
    by_cases e : v = P nx
    · subst e; rw [upd_same]; exact Sub.refl _ _
    · rw [hpos' v e] at hvp
      rw [upd_other _ _ e]
      exact h.sub v hv hvp
  · intro o ho
    rcases List.mem_cons.1 (show o ∈ P nx :: fs.map Prod.fst from ho) with e | e
    · subst e
      refine ⟨P nx, hpn, by rw [hself]; omega, upd_same _ _ _, fun j _ => ?_⟩
      show s.chain (P nx) ≤ j
      rw [hD.ch0 _ hpl]
      omega
    · obtain ⟨x, g1, g2, g3, g4⟩ := h.real o e
      exact ⟨x, g1, by rw [hpos' x (hpos x g2)]; exact g2, by rw [upd_other _ _ (hpos x g2)]; exact g3, g4⟩

/-- Over a tree no block goes on above the device that it hangs from. -/
theorem TI.low (sg : SG n m F P) (t : Tree n (Adj n F P) par dep) {s : St} {home cnt : Nat → Nat} {c u : Nat} {Hc Hu : List Nat} {fr : List (Nat × List Nat)} (hD : DI n F P s ((c, Hc) :: (u, Hu) :: fr) home cnt) (h : TI n F P par s ((c, Hc) :: (u, Hu) :: fr) home) : s.place u ≤ s.low c := by
  obtain ⟨h1, h2, h3, h4, h5⟩ := hD.frames
  have hHc : Hc = [] := h.noH (c, Hc) (by simp)
  subst hHc
  have huc : s.place u < s.place c := h1.up u (by simp)
  rcases h1.lowr with e | ⟨g, f, hg, hf, hfg, hfl⟩
  · omega
  · have hgc : g = c := by rcases hg with e | e; exact e; simp at e
    subst hgc
    have hpar : u = par g := h.pp.1
    have hfc : s.place f < s.place g := h1.up f hf
    have hfp : 0 < s.place f := (hD.pl f (by simp only [flat, List.nil_append, List.mem_cons]; exact .inr (mem_flat_fst (fs := (u, Hu) :: fr) hf))).2
    rcases t.edge f g hfg with ⟨e, _⟩ | ⟨e, e0⟩
    · rw [← hpar] at e
      subst e
      omega
    · have := (h.parpl f (sg.adj_lt (sg.symm _ _ hfg)) e0 hfp).2
      rw [← e] at this
      omega

open Classical in
theorem TI.close (sg : SG n m F P) (t : Tree n (Adj n F P) par dep) {s : St} {home cnt : Nat → Nat} {c u a b : Nat} {r : List (Nat × Nat)} {Hc Hu : List Nat} {fr : List (Nat × List Nat)} (hD : DI n F P s ((c, Hc) :: (u, Hu) :: fr) home cnt)
    (h : TI n F P par s ((c, Hc) :: (u, Hu) :: fr) home) (ht : Top2 s.chain (Hc ++ [c]) a b) :
    TI n F P par (s.close c u r (flat ((u, Hu) :: fr)) ((Hc.length + 2) / 2) a b) ((u, Hu) :: fr) (fun v => if home v ∈ Hc ++ [c] then u else home v) := by
  have hHc : Hc = [] := h.noH (c, Hc) (by simp)
  subst hHc
  obtain ⟨h1, h2, h3, h4, h5⟩ := hD.frames
  have huc : s.place u < s.place c := h1.up u (by simp)
  have hup : ∀ x, x ∈ fr.map Prod.fst → s.place x < s.place u := h3.up
  have hpar : u = par c := h.pp.1
  have hearly : ∀ v, v < n → 0 < s.place v → home v = u → s.place v < s.place c := h.pp.2.2.1
  have hcn := (hD.pl c (by simp [flat])).1
  have hcp := (hD.pl c (by simp [flat])).2
  have hun := (hD.pl u (by simp [flat])).1
  have hupl := (hD.pl u (by simp [flat])).2
  have ha : a = s.chain c ∧ b = 0 := by
    have e1 := ht.one c (by simp)
    have e2 := ht.sum
    simp only [List.nil_append, sumOf] at e2
    omega
  obtain ⟨rfl, rfl⟩ := ha
  have hmem : ∀ v, home v ∈ ([] : List Nat) ++ [c] ↔ home v = c := fun v => by simp
  have hhome : ∀ v, (if home v ∈ ([] : List Nat) ++ [c] then u else home v) = if home v = c then u else home v := fun v => by
    by_cases e : home v = c
    · rw [if_pos ((hmem v).2 e), if_pos e]
    · rw [if_neg (fun e' => e ((hmem v).1 e')), if_neg e]
  have hsymm := fun a b => sg.symm (n := n) (m := m) (F := F) (P := P) a b
  have hnsu : ¬ Sub par c u := fun e => by have := h.sub_le t hun hupl e; omega
  obtain ⟨xu, gu1, gu2, gu3, gu4⟩ := h.real u (by simp)
  obtain ⟨xc, gc1, gc2, gc3, gc4⟩ := h.real c (by simp)
  have hxc : Sub par c xc := by have := h.sub xc gc1 gc2; rw [gc3] at this; exact this
  have hxu : ¬ Sub par c xu := fun e => by
    have := h.sub_le t gu1 gu2 e
    have := hearly xu gu1 gu2 gu3
    omega
  refine ⟨fun f hf => h.noH f (by simp only [List.mem_cons] at hf ⊢; exact .inr hf), ?_, h.parpl, ?_, ?_, ?_⟩
  · refine PathPar.congr h.pp.2.2.2 (fun _ _ => rfl) ?_
    intro o ho v hv hv0 hh
    rw [hhome] at hh
    have hou : s.place o < s.place u := hup o ho
    by_cases e : home v = c
    · rw [if_pos e] at hh
      subst hh
      omega
    · rw [if_neg e] at hh
      exact ⟨hv0, hh, rfl⟩
  · intro v hv hv0
    have hs := h.sub v hv hv0
    show Sub par (if home v ∈ ([] : List Nat) ++ [c] then u else home v) v
    rw [hhome]
    by_cases e : home v = c
    · rw [if_pos e, hpar]
      rw [e] at hs
      exact hs.par
    · rw [if_neg e]; exact hs
  · intro o ho
    show ∃ x, x < n ∧ 0 < s.place x ∧ (if home x ∈ ([] : List Nat) ++ [c] then u else home x) = o ∧ LB _ (upd s.chain u (max (s.chain u) ((0 + 2) / 2 + s.chain c)) o) o x
    by_cases e : o = u
    · subst e
      rw [upd_same]
      by_cases e2 : (0 + 2) / 2 + s.chain c ≤ s.chain o
      · refine ⟨xu, gu1, gu2, ?_, ?_⟩
        · rw [hhome, gu3, if_neg (fun e => by subst e; omega)]
        · rw [Nat.max_eq_left e2]; exact gu4
      · refine ⟨xc, gc1, gc2, ?_, ?_⟩
        · rw [hhome, if_pos gc3]
        · rw [Nat.max_eq_right (by omega)]
          have := t.lb hnsu hxc (a := 0) (fun j _ => Nat.zero_le _) gc4
          intro j hj
          have := this j hj
          omega
    · have ho' : o ∈ fr.map Prod.fst := by
        rcases List.mem_cons.1 (show o ∈ u :: fr.map Prod.fst from ho) with e' | e'
        · exact absurd e' e
        · exact e'
      rw [upd_other _ _ e]
      obtain ⟨x, g1, g2, g3, g4⟩ := h.real o (by simp only [List.map_cons, List.mem_cons]; exact .inr (.inr ho'))
      refine ⟨x, g1, g2, ?_, g4⟩
      rw [hhome, g3, if_neg (fun e' => by subst e'; have := hup o ho'; omega)]
  · show ∃ x y, x < n ∧ y < n ∧ LB _ (max (max s.bound ((0 + 2) / 2 + s.chain c + 0)) (s.chain u + (0 + 2) / 2 + s.chain c)) x y
    by_cases e : s.chain u + (0 + 2) / 2 + s.chain c ≤ s.bound
    · obtain ⟨x, y, g1, g2, g3⟩ := h.breal
      exact ⟨x, y, g1, g2, fun j hj => by have := g3 j hj; omega⟩
    · refine ⟨xu, xc, gu1, gc1, ?_⟩
      have := t.lb hxu hxc (by rw [← hpar]; exact gu4.symm hsymm) gc4
      intro j hj
      have := this j hj
      omega

theorem runs_tree (sg : SG n m F P) (t : Tree n (Adj n F P) par dep) : Runs n F P (fun s => ∃ fs home cnt, DI n F P s fs home cnt ∧ TI n F P par s fs home) where
  safe := fun s ⟨fs, home, cnt, h, _⟩ => ⟨fs, home, cnt, h⟩
  start := ⟨_, _, _, DI.start sg, TI.start sg⟩
  scan := fun s d nx r ⟨fs, home, cnt, h, g⟩ hp h1 h2 => ⟨_, _, _, h.scan sg hp h1 h2, g.scan⟩
  push := fun s d nx r ⟨fs, home, cnt, h, g⟩ hp h1 h2 => ⟨_, _, _, h.push sg hp h1 h2, TI.push sg t h g hp h1 h2⟩
  merge := fun s c nx u nu r ⟨fs, home, cnt, h, g⟩ hp h1 h2 => by
    obtain ⟨Hc, Hu, fr, rfl, _⟩ := h.top2 hp
    have := TI.low sg t h g
    omega
  close := fun s c nx u nu r L op a b ⟨fs, home, cnt, h, g⟩ hp h1 h2 ho hL ht => by
    obtain ⟨Hc, Hu, fr, rfl, _⟩ := h.top2 hp
    obtain ⟨rfl, rfl⟩ := h.popped ho hL
    exact ⟨_, _, _, h.close sg hp h1 h2 ht, TI.close sg t h g ht⟩

end

end Go.Proofs.Qxb6600523a
