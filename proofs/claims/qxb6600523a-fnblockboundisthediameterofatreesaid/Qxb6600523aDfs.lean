/-
  The walk depth first that takes a network apart into its blocks: its state, what it keeps up, step by step. No Go in sight.
-/
import Derived.Test.Qxb6600523aFrames
namespace Go.Proofs.Qxb6600523a

def upd (f : Nat → Nat) (i v : Nat) : Nat → Nat := fun j => if j = i then v else f j

theorem upd_same (f : Nat → Nat) (i v : Nat) : upd f i v i = v := if_pos rfl
theorem upd_other (f : Nat → Nat) {i j : Nat} (v : Nat) (h : j ≠ i) : upd f i v j = f j := if_neg h

structure St where
  place : Nat → Nat
  low : Nat → Nat
  chain : Nat → Nat
  path : List (Nat × Nat)
  opens : List Nat
  placed : Nat
  bound : Nat

def cntPos (place : Nat → Nat) : Nat → Nat
  | 0 => 0
  | v + 1 => cntPos place v + if 0 < place v then 1 else 0

theorem cntPos_le (place : Nat → Nat) : ∀ n, cntPos place n ≤ n
  | 0 => Nat.le_refl _
  | n + 1 => by have := cntPos_le place n; simp only [cntPos]; split <;> omega

theorem cntPos_congr {place place' : Nat → Nat} : ∀ n, (∀ v, v < n → place' v = place v) → cntPos place' n = cntPos place n
  | 0, _ => rfl
  | n + 1, h => by simp only [cntPos]; rw [cntPos_congr n (fun v hv => h v (by omega)), h n (by omega)]

theorem cntPos_upd {place : Nat → Nat} {p x : Nat} (h0 : place p = 0) (hx : 0 < x) : ∀ n, p < n → cntPos (upd place p x) n = cntPos place n + 1
  | 0, h => absurd h (by omega)
  | n + 1, h => by
    simp only [cntPos]
    by_cases e : p = n
    · subst e
      rw [cntPos_congr p (fun v hv => upd_other _ _ (by omega)), upd_same, h0]
      simp [hx]
    · rw [cntPos_upd h0 hx n (by omega), upd_other _ _ (by omega)]
      omega

/-- What is left to do: the measure of the walk. -/
def wUn (F place : Nat → Nat) : Nat → Nat
  | 0 => 0
  | v + 1 => wUn F place v + if place v = 0 then (F (v + 1) - F v) + 2 else 0

def wPath (F : Nat → Nat) : List (Nat × Nat) → Nat
  | [] => 0
  | (d, nx) :: r => (F (d + 1) - nx) + 1 + wPath F r

theorem wUn_congr {F place place' : Nat → Nat} : ∀ n, (∀ v, v < n → place' v = place v) → wUn F place' n = wUn F place n
  | 0, _ => rfl
  | n + 1, h => by simp only [wUn]; rw [wUn_congr n (fun v hv => h v (by omega)), h n (by omega)]

theorem wUn_upd {F place : Nat → Nat} {p x : Nat} (h0 : place p = 0) (hx : 0 < x) : ∀ n, p < n → wUn F (upd place p x) n + ((F (p + 1) - F p) + 2) = wUn F place n
  | 0, h => absurd h (by omega)
  | n + 1, h => by
    simp only [wUn]
    by_cases e : p = n
    · subst e
      rw [wUn_congr (place := place) p (fun v hv => upd_other _ _ (by omega)), upd_same, h0]
      rw [if_neg (by omega), if_pos rfl]
      omega
    · have := wUn_upd (F := F) h0 hx n (by omega)
      have e2 : upd place p x n = place n := upd_other _ _ (by omega)
      rw [e2]
      omega

def St.mu (F : Nat → Nat) (n : Nat) (s : St) : Nat := wUn F s.place n + wPath F s.path

def sumOf (f : Nat → Nat) : List Nat → Nat
  | [] => 0
  | a :: l => f a + sumOf f l

theorem sumOf_append (f : Nat → Nat) (l k : List Nat) : sumOf f (l ++ k) = sumOf f l + sumOf f k := by
  induction l with
  | nil => simp [sumOf]
  | cons a l ih => simp only [List.cons_append, sumOf, ih]; omega

theorem sumOf_congr {f g : Nat → Nat} {l : List Nat} (h : ∀ a, a ∈ l → f a = g a) : sumOf f l = sumOf g l := by
  induction l with
  | nil => rfl
  | cons a l ih => simp only [sumOf, h a (by simp), ih (fun b hb => h b (by simp [hb]))]

/-- The two heaviest of a list, one after the other. -/
structure Top2 (ch : Nat → Nat) (L : List Nat) (a b : Nat) : Prop where
  one : ∀ d, d ∈ L → ch d ≤ a
  two : ∀ d e, d ∈ L → e ∈ L → d ≠ e → ch d + ch e ≤ a + b
  sum : a + b ≤ sumOf ch L
  le : b ≤ a

theorem Top2.nil (ch : Nat → Nat) : Top2 ch [] 0 0 := ⟨fun d h => absurd h (by simp), fun d e h => absurd h (by simp), by simp [sumOf], Nat.le_refl _⟩

theorem Top2.more {ch : Nat → Nat} {L : List Nat} {a b e : Nat} (h : Top2 ch L a b) (he : a < ch e) : Top2 ch (L ++ [e]) (ch e) a := by
  refine ⟨?_, ?_, ?_, by omega⟩
  · intro d hd
    rcases List.mem_append.1 hd with hd | hd
    · have := h.one d hd; omega
    · have : d = e := by simpa using hd
      subst this; exact Nat.le_refl _
  · intro d f hd hf hne
    rcases List.mem_append.1 hd with hd1 | hd1 <;> rcases List.mem_append.1 hf with hf1 | hf1
    · have := h.two d f hd1 hf1 hne; have := h.le; omega
    · have e1 : f = e := by simpa using hf1
      have := h.one d hd1; rw [e1]; omega
    · have e1 : d = e := by simpa using hd1
      have := h.one f hf1; rw [e1]; omega
    · have h1 : d = e := by simpa using hd1
      have h2 : f = e := by simpa using hf1
      omega
  · rw [sumOf_append]; simp only [sumOf]; have := h.sum; omega

theorem Top2.less {ch : Nat → Nat} {L : List Nat} {a b e : Nat} (h : Top2 ch L a b) (he : ch e ≤ a) : Top2 ch (L ++ [e]) a (max b (ch e)) := by
  refine ⟨?_, ?_, ?_, by have := h.le; omega⟩
  · intro d hd
    rcases List.mem_append.1 hd with hd | hd
    · exact h.one d hd
    · have : d = e := by simpa using hd
      subst this; exact he
  · intro d f hd hf hne
    rcases List.mem_append.1 hd with hd1 | hd1 <;> rcases List.mem_append.1 hf with hf1 | hf1
    · have := h.two d f hd1 hf1 hne; omega
    · have e1 : f = e := by simpa using hf1
      have := h.one d hd1; rw [e1]; omega
    · have e1 : d = e := by simpa using hd1
      have := h.one f hf1; rw [e1]; omega
    · have h1 : d = e := by simpa using hd1
      have h2 : f = e := by simpa using hf1
      omega
  · rw [sumOf_append]; simp only [sumOf]; have := h.sum; have := h.le; omega

/-- What the walk keeps up. Ghosts: the frames; of each device the open device that it hangs from; how many hang from each. -/
structure DI (n : Nat) (F P : Nat → Nat) (s : St) (fs : List (Nat × List Nat)) (home cnt : Nat → Nat) : Prop where
  dev : s.path.map Prod.fst = fs.map Prod.fst
  opn : s.opens = flat fs
  bot : fs.getLast? = some (0, [])
  frames : Frames (Adj n F P) s.place s.low fs
  ports : ∀ d nx, (d, nx) ∈ s.path → d < n ∧ F d ≤ nx ∧ nx ≤ F (d + 1) ∧ ∀ k, F d ≤ k → k < nx → 0 < s.place (P k)
  fin : ∀ v, v < n → 0 < s.place v → v ∉ s.path.map Prod.fst → ∀ q, Adj n F P v q → 0 < s.place q ∧ (q ∈ s.path.map Prod.fst → s.place q < s.place v)
  pl : ∀ v, v ∈ flat fs → v < n ∧ 0 < s.place v
  ple : ∀ v, s.place v ≤ s.placed
  p0 : s.place 0 = 1
  ch0 : ∀ v, s.place v = 0 → s.chain v = 0
  hom : ∀ v, v < n → 0 < s.place v → home v ∈ flat fs ∧ Wk (Adj n F P) (s.chain (home v)) (home v) v
  pair : ∀ x y, x < n → y < n → 0 < s.place x → 0 < s.place y → home x = home y → Wk (Adj n F P) s.bound x y
  cnt1 : ∀ o, o ∈ flat fs → s.chain o + 1 ≤ cnt o
  sum : sumOf cnt (flat fs) = s.placed
  bnd : s.bound + 1 ≤ s.placed
  tot : s.placed = cntPos s.place n
  nodup : (flat fs).Nodup

section
variable {n m : Nat} {F P : Nat → Nat}

def St.start (F : Nat → Nat) : St := { place := upd (fun _ => 0) 0 1, low := upd (fun _ => 0) 0 1, chain := fun _ => 0, path := [(0, F 0)], opens := [0], placed := 1, bound := 0 }

theorem cntPos_zero : ∀ n, cntPos (fun _ => 0) n = 0
  | 0 => rfl
  | n + 1 => by simp [cntPos, cntPos_zero n]

theorem DI.start (sg : SG n m F P) : DI n F P (St.start F) [(0, [])] (fun v => v) (fun _ => 1) where
  dev := rfl
  opn := rfl
  bot := rfl
  frames := ⟨by have := FrameOK.fresh (adj := Adj n F P) (place := (St.start F).place) (p := 0) (A := []) (fun a ha => absurd ha (by simp)); exact this, fun q hq => by simp at hq, trivial⟩
  ports := fun d nx h => by
    have h' : (d, nx) = (0, F 0) := by simpa [St.start] using h
    simp only [Prod.mk.injEq] at h'
    obtain ⟨rfl, rfl⟩ := h'
    exact ⟨sg.pos, Nat.le_refl _, sg.mono 0 sg.pos, fun k h1 h2 => absurd h2 (by omega)⟩
  fin := fun v hv hp hm => by
    have : v ≠ 0 := by simpa [St.start] using hm
    simp [St.start, upd, this] at hp
  pl := fun v hv => by
    have : v = 0 := by simpa [flat] using hv
    subst this
    exact ⟨sg.pos, by simp [St.start, upd]⟩
  ple := fun v => by simp only [St.start, upd]; split <;> omega
  p0 := rfl
  ch0 := fun _ _ => rfl
  hom := fun v hv hp => by
    have : v = 0 := by
      by_cases e : v = 0
      · exact e
      · simp [St.start, upd, e] at hp
    subst this
    exact ⟨by simp [flat], Wk.refl _ _⟩
  pair := fun x y _ _ _ _ h => by
    have : x = y := h
    subst this
    exact Wk.refl _ _
  cnt1 := fun o _ => by simp [St.start]
  sum := rfl
  bnd := by simp [St.start]
  tot := by
    show 1 = cntPos (upd (fun _ => 0) 0 1) n
    rw [cntPos_upd rfl (by omega) n sg.pos, cntPos_zero]
  nodup := by simp [flat]

/-- The frames, where the path has a top. -/
theorem DI.top {s : St} {fs : List (Nat × List Nat)} {home cnt : Nat → Nat} (h : DI n F P s fs home cnt) {d nx : Nat} {r : List (Nat × Nat)} (hp : s.path = (d, nx) :: r) :
    ∃ H fr, fs = (d, H) :: fr ∧ r.map Prod.fst = fr.map Prod.fst := by
  have hd := h.dev
  rw [hp] at hd
  match fs, hd with
  | (d', H) :: fr, hd =>
    simp only [List.map_cons, List.cons.injEq] at hd
    obtain ⟨rfl, hr⟩ := hd
    exact ⟨H, fr, rfl, hr⟩

theorem DI.path_flat {s : St} {fs : List (Nat × List Nat)} {home cnt : Nat → Nat} (h : DI n F P s fs home cnt) {a : Nat} (ha : a ∈ s.path.map Prod.fst) : a ∈ flat fs := by
  rw [h.dev] at ha
  exact mem_flat_fst ha

/-- A port that leads to a device already come to. -/
def St.scan (s : St) (d nx : Nat) (r : List (Nat × Nat)) (p : Nat) : St := { s with path := (d, nx + 1) :: r, low := upd s.low d (min (s.low d) (s.place p)) }

theorem DI.scan (sg : SG n m F P) {s : St} {fs : List (Nat × List Nat)} {home cnt : Nat → Nat} (h : DI n F P s fs home cnt) {d nx : Nat} {r : List (Nat × Nat)} (hp : s.path = (d, nx) :: r) (hnx : nx < F (d + 1)) (hpl : 0 < s.place (P nx)) :
    DI n F P (s.scan d nx r (P nx)) fs home cnt := by
  obtain ⟨H, fr, rfl, hr⟩ := h.top hp
  have hdm : d ∈ s.path.map Prod.fst := by rw [hp]; simp
  obtain ⟨hdn, hF1, hF2, hF3⟩ := h.ports d nx (by rw [hp]; simp)
  have hadj : Adj n F P d (P nx) := ⟨hdn, nx, hF1, hnx, rfl⟩
  have hpath : (s.scan d nx r (P nx)).path.map Prod.fst = s.path.map Prod.fst := by simp [St.scan, hp]
  refine ⟨by rw [hpath]; exact h.dev, h.opn, h.bot, ?_, ?_, ?_, h.pl, h.ple, h.p0, h.ch0, h.hom, h.pair, h.cnt1, h.sum, h.bnd, h.tot, h.nodup⟩
  · obtain ⟨h1, h2, h3⟩ := h.frames
    have hdr : ∀ a, a ∈ fr.map Prod.fst → a ≠ d := fun a ha e => by have := h1.up a ha; subst e; omega
    refine ⟨?_, h2, h3.congr (fun _ _ => rfl) (fun a ha => upd_other _ _ (hdr a ha))⟩
    show FrameOK _ _ (upd s.low d (min (s.low d) (s.place (P nx))) d) d H _
    rw [upd_same]
    refine h1.back fun hlt => ?_
    refine ⟨?_, sg.symm _ _ hadj⟩
    by_cases e : P nx ∈ s.path.map Prod.fst
    · rw [hp] at e
      simp only [List.map_cons, List.mem_cons] at e
      rcases e with e | e
      · rw [e] at hlt; omega
      · rw [hr] at e; exact e
    · have := (h.fin (P nx) (sg.adj_lt hadj) hpl e d (sg.symm _ _ hadj)).2 hdm
      omega
  · intro d' nx' hm
    have hm' : (d', nx') = (d, nx + 1) ∨ (d', nx') ∈ r := by simpa [St.scan] using hm
    rcases hm' with e | e
    · simp only [Prod.mk.injEq] at e
      obtain ⟨rfl, rfl⟩ := e
      refine ⟨hdn, by omega, hnx, fun k h1 h2 => ?_⟩
      by_cases e : k = nx
      · subst e; exact hpl
      · exact hF3 k h1 (by omega)
    · exact h.ports d' nx' (by rw [hp]; exact List.mem_cons_of_mem _ e)
  · rw [hpath]; exact h.fin

theorem St.scan_mu {s : St} {d nx p : Nat} {r : List (Nat × Nat)} (hp : s.path = (d, nx) :: r) (hnx : nx < F (d + 1)) : (s.scan d nx r p).mu F n < s.mu F n := by
  simp only [St.mu, St.scan, hp, wPath]
  omega

/-- A port that leads to a device not come to before. -/
def St.push (F : Nat → Nat) (s : St) (d nx : Nat) (r : List (Nat × Nat)) (p : Nat) : St :=
  { s with place := upd s.place p (s.placed + 1), low := upd s.low p (s.placed + 1), path := (p, F p) :: (d, nx + 1) :: r, opens := p :: s.opens, placed := s.placed + 1 }

theorem DI.push (sg : SG n m F P) {s : St} {fs : List (Nat × List Nat)} {home cnt : Nat → Nat} (h : DI n F P s fs home cnt) {d nx : Nat} {r : List (Nat × Nat)} (hp : s.path = (d, nx) :: r) (hnx : nx < F (d + 1)) (hpl : s.place (P nx) = 0) :
    DI n F P (s.push F d nx r (P nx)) ((P nx, []) :: fs) (upd home (P nx) (P nx)) (upd cnt (P nx) 1) := by
  obtain ⟨H, fr, hfs, hr⟩ := h.top hp
  obtain ⟨hdn, hF1, hF2, hF3⟩ := h.ports d nx (by rw [hp]; simp)
  have hadj : Adj n F P d (P nx) := ⟨hdn, nx, hF1, hnx, rfl⟩
  have hpn := sg.adj_lt hadj
  have hpf : P nx ∉ flat fs := fun e => by have := (h.pl _ e).2; omega
  have hne : ∀ a, a ∈ flat fs → a ≠ P nx := fun a ha e => hpf (e ▸ ha)
  have hpp : P nx ∉ s.path.map Prod.fst := fun e => hpf (h.path_flat e)
  have hpath : (s.push F d nx r (P nx)).path.map Prod.fst = P nx :: s.path.map Prod.fst := by simp [St.push, hp]
  have hflat : flat ((P nx, []) :: fs) = P nx :: flat fs := rfl
  have hpos : ∀ v, 0 < s.place v → v ≠ P nx := fun v hv e => by subst e; omega
  have hpos' : ∀ v, v ≠ P nx → (s.push F d nx r (P nx)).place v = s.place v := fun v hv => upd_other _ _ hv
  have hself : (s.push F d nx r (P nx)).place (P nx) = s.placed + 1 := upd_same _ _ _
  have hch : s.chain (P nx) = 0 := h.ch0 _ hpl
  refine ⟨?_, ?_, ?_, ?_, ?_, ?_, ?_, ?_, ?_, ?_, ?_, ?_, ?_, ?_, ?_, ?_, ?_⟩
  · rw [hpath, h.dev]; rfl
  · show P nx :: s.opens = P nx :: flat fs
    rw [h.opn]
  · subst hfs
    have := h.bot
    simp only [List.getLast?_cons_cons] at this ⊢
    exact this
  · refine ⟨?_, ?_, h.frames.congr (fun a ha => hpos' a (hne a ha)) (fun a ha => upd_other _ _ (hne a (mem_flat_fst ha)))⟩
    · have e1 : (s.push F d nx r (P nx)).low (P nx) = (s.push F d nx r (P nx)).place (P nx) := by rw [hself]; exact upd_same _ _ _
      rw [e1]
      refine FrameOK.fresh fun a ha => ?_
      rw [hself, hpos' a (hne a (mem_flat_fst ha))]
      have := h.ple a
      omega
    · intro q hq
      rw [hfs] at hq
      simp only [List.head?_cons, Option.some.injEq] at hq
      subst hq
      exact hadj
  · intro d' nx' hm
    have hm' : (d', nx') = (P nx, F (P nx)) ∨ (d', nx') = (d, nx + 1) ∨ (d', nx') ∈ r := by simpa [St.push] using hm
    have up : ∀ k, 0 < s.place (P k) → 0 < (s.push F d nx r (P nx)).place (P k) := fun k hk => by rw [hpos' _ (hpos _ hk)]; exact hk
    rcases hm' with e | e | e
    · simp only [Prod.mk.injEq] at e
      obtain ⟨rfl, rfl⟩ := e
      exact ⟨hpn, Nat.le_refl _, sg.mono _ hpn, fun k h1 h2 => absurd h2 (by omega)⟩
    · simp only [Prod.mk.injEq] at e
      obtain ⟨rfl, rfl⟩ := e
      refine ⟨hdn, by omega, hnx, fun k h1 h2 => ?_⟩
      by_cases e : k = nx
      · subst e; rw [hself]; omega
      · exact up k (hF3 k h1 (by omega))
    · obtain ⟨g1, g2, g3, g4⟩ := h.ports d' nx' (by rw [hp]; exact List.mem_cons_of_mem _ e)
      exact ⟨g1, g2, g3, fun k h1 h2 => up k (g4 k h1 h2)⟩
  · intro v hv hv0 hvm q hq
    rw [hpath] at hvm ⊢
    have hvp : v ≠ P nx := fun e => hvm (by simp [e])
    rw [hpos' v hvp] at hv0 ⊢
    obtain ⟨g1, g2⟩ := h.fin v hv hv0 (fun e => hvm (List.mem_cons_of_mem _ e)) q hq
    have hqp := hpos q g1
    rw [hpos' q hqp]
    refine ⟨g1, fun hm => ?_⟩
    rcases List.mem_cons.1 hm with e | e
    · exact absurd e hqp
    · exact g2 e
  · intro v hv
    rw [hflat] at hv
    rcases List.mem_cons.1 hv with e | e
    · subst e; exact ⟨hpn, by rw [hself]; omega⟩
    · rw [hpos' v (hne v e)]; exact h.pl v e
  · intro v
    show upd s.place (P nx) (s.placed + 1) v ≤ s.placed + 1
    have := h.ple v
    unfold upd
    split <;> omega
  · rw [hpos' 0 (hpos 0 (by rw [h.p0]; omega))]; exact h.p0
  · intro v hv
    by_cases e : v = P nx
    · subst e; rw [hself] at hv; omega
    · rw [hpos' v e] at hv; exact h.ch0 v hv
  · intro v hv hv0
    by_cases e : v = P nx
    · subst e
      rw [upd_same]
      exact ⟨by rw [hflat]; simp, Wk.refl _ _⟩
    · rw [hpos' v e] at hv0
      obtain ⟨g1, g2⟩ := h.hom v hv hv0
      rw [upd_other _ _ e]
      exact ⟨by rw [hflat]; simp [g1], g2⟩
  · intro x y hx hy hx0 hy0 hxy
    by_cases ex : x = P nx
    · by_cases ey : y = P nx
      · rw [ex, ey]; exact Wk.refl _ _
      · rw [hpos' y ey] at hy0
        rw [ex, upd_same, upd_other _ _ ey] at hxy
        exact absurd (hxy ▸ (h.hom y hy hy0).1) hpf
    · rw [hpos' x ex] at hx0
      by_cases ey : y = P nx
      · rw [ey, upd_same, upd_other _ _ ex] at hxy
        exact absurd (hxy ▸ (h.hom x hx hx0).1) hpf
      · rw [hpos' y ey] at hy0
        rw [upd_other _ _ ex, upd_other _ _ ey] at hxy
        exact h.pair x y hx hy hx0 hy0 hxy
  · intro o ho
    rw [hflat] at ho
    by_cases e : o = P nx
    · subst e
      rw [upd_same]
      show s.chain (P nx) + 1 ≤ 1
      omega
    · rw [upd_other _ _ e]
      rcases List.mem_cons.1 ho with e' | e'
      · exact absurd e' e
      · exact h.cnt1 o e'
  · rw [hflat]
    simp only [sumOf, upd_same]
    rw [sumOf_congr (fun a ha => upd_other _ _ (hne a ha)), h.sum]
    show 1 + s.placed = s.placed + 1
    omega
  · have := h.bnd
    show s.bound + 1 ≤ s.placed + 1
    omega
  · show s.placed + 1 = cntPos (upd s.place (P nx) (s.placed + 1)) n
    rw [cntPos_upd hpl (by omega) n hpn, ← h.tot]
  · rw [hflat]
    exact List.nodup_cons.2 ⟨hpf, h.nodup⟩

theorem St.push_mu {s : St} {d nx p : Nat} {r : List (Nat × Nat)} (hp : s.path = (d, nx) :: r) (hnx : nx < F (d + 1)) (hpn : p < n) (hp0 : s.place p = 0) : (s.push F d nx r p).mu F n < s.mu F n := by
  have := wUn_upd (F := F) (x := s.placed + 1) hp0 (by omega) n hpn
  simp only [St.mu, St.push, hp, wPath]
  omega

end

end Go.Proofs.Qxb6600523a
