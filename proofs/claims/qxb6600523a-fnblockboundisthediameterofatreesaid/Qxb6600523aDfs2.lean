/-
  The walk depth first, its steps back: a block goes on, a block closes, the end. No Go in sight.
-/
import Derived.Test.Qxb6600523aDfs
namespace Go.Proofs.Qxb6600523a

section
variable {n m : Nat} {F P : Nat → Nat}

/-- The lowest place is never 0. -/
theorem DI.low_pos {s : St} {fs : List (Nat × List Nat)} {home cnt : Nat → Nat} (h : DI n F P s fs home cnt) {c : Nat} {H : List Nat} {fr : List (Nat × List Nat)} (hfs : fs = (c, H) :: fr) : 1 ≤ s.low c := by
  subst hfs
  have h1 := h.frames.1
  have hc := (h.pl c (by simp [flat])).2
  rcases h1.lowr with e | ⟨g, f, _, hf, _, e⟩
  · omega
  · have := (h.pl f (by simp only [flat, List.mem_append, List.mem_cons]; exact .inr (.inr (mem_flat_fst hf)))).2
    omega

/-- What holds when c is left: its ports are all followed. -/
theorem DI.left {s : St} {fs : List (Nat × List Nat)} {home cnt : Nat → Nat} (h : DI n F P s fs home cnt) {c nx : Nat} {r : List (Nat × Nat)} (hp : s.path = (c, nx) :: r) (hnx : F (c + 1) ≤ nx) :
    ∀ v, v < n → 0 < s.place v → v ∉ r.map Prod.fst → ∀ q, Adj n F P v q → 0 < s.place q ∧ (q ∈ r.map Prod.fst → s.place q < s.place v) := by
  intro v hv hv0 hvm q hq
  by_cases e : v = c
  · subst e
    obtain ⟨_, hF1, hF2, hF3⟩ := h.ports v nx (by rw [hp]; simp)
    obtain ⟨_, k, h1, h2, rfl⟩ := hq
    refine ⟨hF3 k h1 (by omega), fun hm => ?_⟩
    obtain ⟨H, fr, rfl, hr⟩ := h.top hp
    rw [hr] at hm
    exact h.frames.1.up _ hm
  · obtain ⟨g1, g2⟩ := h.fin v hv hv0 (by rw [hp]; simp only [List.map_cons, List.mem_cons]; intro e'; rcases e' with e' | e'; exact e e'; exact hvm e') q hq
    exact ⟨g1, fun hm => g2 (by rw [hp]; simp only [List.map_cons, List.mem_cons]; exact .inr hm)⟩

/-- The walk leaves c for u; the block goes on above u. -/
def St.merge (s : St) (c u : Nat) (r : List (Nat × Nat)) : St := { s with path := r, low := upd s.low u (min (s.low u) (s.low c)) }

theorem DI.merge (sg : SG n m F P) {s : St} {home cnt : Nat → Nat} {c u nx nu : Nat} {r : List (Nat × Nat)} {Hc Hu : List Nat} {fr : List (Nat × List Nat)} (h : DI n F P s ((c, Hc) :: (u, Hu) :: fr) home cnt)
    (hp : s.path = (c, nx) :: (u, nu) :: r) (hnx : F (c + 1) ≤ nx) (hl : s.low c < s.place u) :
    DI n F P (s.merge c u ((u, nu) :: r)) ((u, Hc ++ c :: Hu) :: fr) home cnt := by
  have hflat : flat ((u, Hc ++ c :: Hu) :: fr) = flat ((c, Hc) :: (u, Hu) :: fr) := by simp [flat]
  have hdev := h.dev
  rw [hp] at hdev
  simp only [List.map_cons, List.cons.injEq, true_and] at hdev
  obtain ⟨h1, h2, h3, h4, h5⟩ := h.frames
  have hur : ∀ a, a ∈ fr.map Prod.fst → a ≠ u := fun a ha e => by have := h3.up a ha; subst e; omega
  refine ⟨?_, by rw [hflat]; exact h.opn, ?_, ?_, ?_, h.left hp hnx, by rw [hflat]; exact h.pl, h.ple, h.p0, h.ch0, by rw [hflat]; exact h.hom, h.pair, by rw [hflat]; exact h.cnt1, by rw [hflat]; exact h.sum, h.bnd, h.tot, by rw [hflat]; exact h.nodup⟩
  · simp only [St.merge, List.map_cons, List.cons.injEq, true_and]
    exact hdev
  · have hb := h.bot
    simp only [List.getLast?_cons_cons] at hb
    cases fr with
    | nil =>
      simp only [List.getLast?_singleton, Option.some.injEq, Prod.mk.injEq] at hb
      obtain ⟨rfl, rfl⟩ := hb
      have := h.low_pos rfl
      have := h.p0
      omega
    | cons f fr =>
      simp only [List.getLast?_cons_cons] at hb ⊢
      exact hb
  · refine ⟨?_, h4, h5.congr (fun _ _ => rfl) (fun a ha => upd_other _ _ (hur a ha))⟩
    show FrameOK _ _ (upd s.low u (min (s.low u) (s.low c)) u) u _ _
    rw [upd_same]
    exact h1.merge (fun a b => sg.symm a b) h3 (h2 _ rfl) hl
  · intro d' nx' hm
    exact h.ports d' nx' (by rw [hp]; exact List.mem_cons_of_mem _ hm)

theorem St.merge_mu {s : St} {c u nx : Nat} {r : List (Nat × Nat)} (hp : s.path = (c, nx) :: r) : (s.merge c u r).mu F n < s.mu F n := by
  simp only [St.mu, St.merge, hp, wPath]
  omega

/-- The walk leaves c for u, and a block closes: u and those of L. -/
def St.close (s : St) (c u : Nat) (r : List (Nat × Nat)) (op : List Nat) (w a b : Nat) : St :=
  { s with path := r, low := upd s.low u (min (s.low u) (s.low c)), opens := op, bound := max (max s.bound (w + a + b)) (s.chain u + w + a), chain := upd s.chain u (max (s.chain u) (w + a)) }

theorem sumOf_ge {f g : Nat → Nat} {l : List Nat} (h : ∀ a, a ∈ l → f a + 1 ≤ g a) : sumOf f l + l.length ≤ sumOf g l := by
  induction l with
  | nil => simp [sumOf]
  | cons a l ih =>
    have := ih (fun b hb => h b (by simp [hb]))
    have := h a (by simp)
    simp only [sumOf, List.length_cons]
    omega

open Classical in
theorem DI.close (sg : SG n m F P) {s : St} {home cnt : Nat → Nat} {c u nx nu a b : Nat} {r : List (Nat × Nat)} {Hc Hu : List Nat} {fr : List (Nat × List Nat)} (h : DI n F P s ((c, Hc) :: (u, Hu) :: fr) home cnt)
    (hp : s.path = (c, nx) :: (u, nu) :: r) (hnx : F (c + 1) ≤ nx) (hl : s.place u ≤ s.low c) (ht : Top2 s.chain (Hc ++ [c]) a b) :
    DI n F P (s.close c u ((u, nu) :: r) (flat ((u, Hu) :: fr)) ((Hc.length + 2) / 2) a b) ((u, Hu) :: fr) (fun v => if home v ∈ Hc ++ [c] then u else home v) (upd cnt u (cnt u + sumOf cnt (Hc ++ [c]))) := by
  have hflat : flat ((c, Hc) :: (u, Hu) :: fr) = (Hc ++ [c]) ++ flat ((u, Hu) :: fr) := by simp [flat]
  have hdev := h.dev
  rw [hp] at hdev
  simp only [List.map_cons, List.cons.injEq, true_and] at hdev
  obtain ⟨h1, h2, h3, h4, h5⟩ := h.frames
  have hur : ∀ a, a ∈ fr.map Prod.fst → a ≠ u := fun a ha e => by have := h3.up a ha; subst e; omega
  have huf : u ∈ flat ((u, Hu) :: fr) := by simp [flat]
  have hnd := h.nodup
  rw [hflat, List.nodup_append] at hnd
  obtain ⟨hn1, hn2, hn3⟩ := hnd
  have hLu : u ∉ Hc ++ [c] := fun e => hn3 u e u huf rfl
  have hsm := h.sum
  rw [hflat, sumOf_append] at hsm
  have htc := FrameOK.close (fun a b => sg.symm a b) h1 h3 (h2 _ rfl) hl
  have hw : ((u :: c :: Hc).length) / 2 = (Hc.length + 2) / 2 := by simp only [List.length_cons]
  have inB : ∀ d, d ∈ Hc ++ [c] → d ∈ u :: c :: Hc := fun d hd => by
    rcases List.mem_append.1 hd with e | e
    · simp [e]
    · have : d = c := by simpa using e
      simp [this]
  have bl : ∀ d e, d ∈ u :: c :: Hc → e ∈ u :: c :: Hc → Wk (Adj n F P) ((Hc.length + 2) / 2) d e := fun d e hd he => by have := block_diam htc hd he; rw [hw] at this; exact this
  have hsymm := fun a b => sg.symm (n := n) (m := m) (F := F) (P := P) a b
  have hge := sumOf_ge (f := s.chain) (g := cnt) (l := Hc ++ [c]) (fun o ho => h.cnt1 o (by rw [hflat]; exact List.mem_append.2 (.inl ho)))
  have hlen : (Hc ++ [c]).length = Hc.length + 1 := by simp
  have hcu := h.cnt1 u (by rw [hflat]; exact List.mem_append.2 (.inr huf))
  have hsu : cnt u ≤ sumOf cnt (flat ((u, Hu) :: fr)) := by
    simp only [flat]
    rw [sumOf_append]
    simp only [sumOf]
    omega
  have hts := ht.sum
  -- the sum with u's new share
  have hupd : ∀ l : List Nat, l.Nodup → u ∈ l → ∀ x, sumOf (upd cnt u (cnt u + x)) l = sumOf cnt l + x := by
    intro l
    induction l with
    | nil => intro _ hm; simp at hm
    | cons e l ih =>
      intro hd hm x
      obtain ⟨hd1, hd2⟩ := List.nodup_cons.1 hd
      simp only [sumOf]
      by_cases ee : e = u
      · subst ee
        rw [upd_same, sumOf_congr (f := upd cnt e (cnt e + x)) (g := cnt) (fun a ha => upd_other _ _ (fun e' => hd1 (e' ▸ ha)))]
        omega
      · have hm' : u ∈ l := by
          rcases List.mem_cons.1 hm with e' | e'
          · exact absurd e'.symm ee
          · exact e'
        rw [upd_other _ _ ee, ih hd2 hm' x]
        omega
  refine ⟨?_, rfl, ?_, ?_, ?_, h.left hp hnx, fun v hv => h.pl v (by rw [hflat]; exact List.mem_append.2 (.inr hv)), h.ple, h.p0, ?_, ?_, ?_, ?_, ?_, ?_, h.tot, hn2⟩
  · simp only [St.close, List.map_cons, List.cons.injEq, true_and]
    exact hdev
  · have hb := h.bot
    simp only [List.getLast?_cons_cons] at hb
    exact hb
  · refine ⟨?_, h4, h5.congr (fun _ _ => rfl) (fun a ha => upd_other _ _ (hur a ha))⟩
    show FrameOK _ _ (upd s.low u (min (s.low u) (s.low c)) u) u _ _
    rw [upd_same, Nat.min_eq_left (by have := h3.le; omega)]
    exact h3
  · intro d' nx' hm
    exact h.ports d' nx' (by rw [hp]; exact List.mem_cons_of_mem _ hm)
  · intro v hv
    have hvu : v ≠ u := by
      intro e
      subst e
      have := (h.pl v (by rw [hflat]; exact List.mem_append.2 (.inr huf))).2
      have : s.place v = 0 := hv
      omega
    show upd s.chain u _ v = 0
    rw [upd_other _ _ hvu]
    exact h.ch0 v hv
  · intro v hv hv0
    obtain ⟨g1, g2⟩ := h.hom v hv hv0
    show (if home v ∈ Hc ++ [c] then u else home v) ∈ _ ∧ Wk _ (upd s.chain u (max (s.chain u) ((Hc.length + 2) / 2 + a)) (if home v ∈ Hc ++ [c] then u else home v)) (if home v ∈ Hc ++ [c] then u else home v) v
    by_cases e : home v ∈ Hc ++ [c]
    · rw [if_pos e, upd_same]
      refine ⟨huf, ?_⟩
      refine Wk.mono (Wk.trans (bl u (home v) (by simp) (inB _ e)) g2) ?_
      have := ht.one _ e
      omega
    · rw [if_neg e]
      rw [hflat] at g1
      refine ⟨(List.mem_append.1 g1).resolve_left e, ?_⟩
      by_cases e2 : home v = u
      · rw [e2, upd_same]
        rw [e2] at g2
        exact g2.mono (by omega)
      · rw [upd_other _ _ e2]; exact g2
  · intro x y hx hy hx0 hy0 hxy
    obtain ⟨gx1, gx2⟩ := h.hom x hx hx0
    obtain ⟨gy1, gy2⟩ := h.hom y hy hy0
    show Wk _ (max (max s.bound ((Hc.length + 2) / 2 + a + b)) (s.chain u + (Hc.length + 2) / 2 + a)) x y
    by_cases ex : home x ∈ Hc ++ [c]
    · rw [if_pos ex] at hxy
      by_cases ey : home y ∈ Hc ++ [c]
      · by_cases exy : home x = home y
        · exact (h.pair x y hx hy hx0 hy0 exy).mono (by omega)
        · have w1 := Wk.trans (Wk.symm hsymm gx2) (Wk.trans (bl _ _ (inB _ ex) (inB _ ey)) gy2)
          have := ht.two _ _ ex ey exy
          exact w1.mono (by omega)
      · rw [if_neg ey] at hxy
        rw [← hxy] at gy2
        have w1 := Wk.trans (Wk.symm hsymm gx2) (Wk.trans (bl _ u (inB _ ex) (by simp)) gy2)
        have := ht.one _ ex
        exact w1.mono (by omega)
    · rw [if_neg ex] at hxy
      by_cases ey : home y ∈ Hc ++ [c]
      · rw [if_pos ey] at hxy
        rw [hxy] at gx2
        have w1 := Wk.trans (Wk.symm hsymm gx2) (Wk.trans (bl u _ (by simp) (inB _ ey)) gy2)
        have := ht.one _ ey
        exact w1.mono (by omega)
      · rw [if_neg ey] at hxy
        exact (h.pair x y hx hy hx0 hy0 hxy).mono (by omega)
  · intro o ho
    have hco := h.cnt1 o (by rw [hflat]; exact List.mem_append.2 (.inr ho))
    show upd s.chain u (max (s.chain u) ((Hc.length + 2) / 2 + a)) o + 1 ≤ upd cnt u (cnt u + sumOf cnt (Hc ++ [c])) o
    by_cases e : o = u
    · subst e
      rw [upd_same, upd_same]
      omega
    · rw [upd_other _ _ e, upd_other _ _ e]; exact hco
  · rw [hupd _ hn2 huf]
    show _ = s.placed
    omega
  · have := h.bnd
    show max (max s.bound ((Hc.length + 2) / 2 + a + b)) (s.chain u + (Hc.length + 2) / 2 + a) + 1 ≤ s.placed
    omega

theorem St.close_mu {s : St} {c u nx w a b : Nat} {r : List (Nat × Nat)} {op : List Nat} (hp : s.path = (c, nx) :: r) : (s.close c u r op w a b).mu F n < s.mu F n := by
  simp only [St.mu, St.close, hp, wPath]
  omega

/-- The end: the walk leaves device 0. -/
theorem DI.done (sg : SG n m F P) {s : St} {fs : List (Nat × List Nat)} {home cnt : Nat → Nat} (h : DI n F P s fs home cnt) {c nx : Nat} (hp : s.path = [(c, nx)]) (hnx : F (c + 1) ≤ nx)
    (hcon : ∀ v, v < n → ∃ k, Wk (Adj n F P) k 0 v) : s.bound + 1 ≤ n ∧ ∀ x y, x < n → y < n → Wk (Adj n F P) s.bound x y := by
  have hleft := h.left hp hnx
  obtain ⟨H, fr, rfl, hr⟩ := h.top hp
  have hfr : fr = [] := by simpa using hr.symm
  subst hfr
  have hb := h.bot
  simp only [List.getLast?_singleton, Option.some.injEq, Prod.mk.injEq] at hb
  obtain ⟨rfl, rfl⟩ := hb
  have hall : ∀ k v, Wk (Adj n F P) k 0 v → v < n ∧ 0 < s.place v := by
    intro k
    induction k with
    | zero => intro v hv
              have : 0 = v := hv
              subst this
              exact ⟨sg.pos, by rw [h.p0]; omega⟩
    | succ k ih =>
      intro v hv
      rcases hv with hv | ⟨t, hv, ha⟩
      · exact ih v hv
      · obtain ⟨t1, t2⟩ := ih t hv
        exact ⟨sg.adj_lt ha, (hleft t t1 t2 (by simp) v ha).1⟩
  have hpl : ∀ v, v < n → 0 < s.place v := fun v hv => by
    obtain ⟨k, hk⟩ := hcon v hv
    exact (hall k v hk).2
  refine ⟨?_, fun x y hx hy => ?_⟩
  · have := h.bnd
    have := h.tot
    have := cntPos_le s.place n
    omega
  · have ex := (h.hom x hx (hpl x hx)).1
    have ey := (h.hom y hy (hpl y hy)).1
    have ex : home x = 0 := by simpa [flat] using ex
    have ey : home y = 0 := by simpa [flat] using ey
    exact h.pair x y hx hy (hpl x hx) (hpl y hy) (by rw [ex, ey])

end

end Go.Proofs.Qxb6600523a
