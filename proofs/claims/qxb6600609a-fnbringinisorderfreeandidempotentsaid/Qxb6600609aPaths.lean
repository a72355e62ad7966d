/-
  What bringing paths into a tree of selections comes to: by the set of paths alone. No Go in sight.
  A tree is a function of paths: at a path: not named (none), named and left out (some none), a selection with its rest flag (some (some r)).
-/
namespace Go.Proofs.Qxb6600609a

def pfx : List ByteArray → List ByteArray → Bool
  | [], _ => true
  | _ :: _, [] => false
  | a :: p, b :: q => decide (a = b) && pfx p q

theorem pfx_iff : ∀ p q, pfx p q = true ↔ ∃ t, q = p ++ t
  | [], q => by simp [pfx]
  | a :: p, [] => by simp [pfx]
  | a :: p, b :: q => by
    simp only [pfx, Bool.and_eq_true, decide_eq_true_eq, pfx_iff p q, List.cons_append, List.cons.injEq]
    constructor
    · rintro ⟨rfl, t, rfl⟩
      exact ⟨t, rfl, rfl⟩
    · rintro ⟨t, rfl, rfl⟩
      exact ⟨rfl, t, rfl⟩

theorem pfx_refl (p : List ByteArray) : pfx p p = true := (pfx_iff p p).2 ⟨[], by simp⟩
theorem pfx_len {p q : List ByteArray} (h : pfx p q = true) : p.length ≤ q.length := by
  obtain ⟨t, rfl⟩ := (pfx_iff p q).1 h
  simp
theorem pfx_trans {p q r : List ByteArray} (h1 : pfx p q = true) (h2 : pfx q r = true) : pfx p r = true := by
  obtain ⟨t, rfl⟩ := (pfx_iff p q).1 h1
  obtain ⟨u, rfl⟩ := (pfx_iff _ r).1 h2
  exact (pfx_iff _ _).2 ⟨t ++ u, by simp⟩
theorem pfx_snoc {q pre : List ByteArray} {x : ByteArray} (h : pfx q (pre ++ [x]) = true) (hne : q ≠ pre ++ [x]) : pfx q pre = true := by
  obtain ⟨t, ht⟩ := (pfx_iff _ _).1 h
  rcases List.eq_nil_or_concat t with rfl | ⟨t', y, rfl⟩
  · simp only [List.append_nil] at ht
    exact absurd ht.symm hne
  · rw [List.concat_eq_append, ← List.append_assoc] at ht
    have := List.append_inj_left' ht rfl
    exact (pfx_iff _ _).2 ⟨t', this⟩
theorem pfx_eq {p q : List ByteArray} (h : pfx p q = true) (hl : q.length ≤ p.length) : p = q := by
  obtain ⟨t, rfl⟩ := (pfx_iff p q).1 h
  have : t = [] := by
    simp only [List.length_append] at hl
    exact List.eq_nil_of_length_eq_zero (by omega)
  subst this
  simp
/-- Two prefixes of one path: the shorter is a prefix of the longer. -/
theorem pfx_of_pfx {p q r : List ByteArray} (h1 : pfx p r = true) (h2 : pfx q r = true) (hl : p.length ≤ q.length) : pfx p q = true := by
  obtain ⟨t, rfl⟩ := (pfx_iff p r).1 h1
  obtain ⟨u, hu⟩ := (pfx_iff q _).1 h2
  refine (pfx_iff p q).2 ⟨q.drop p.length, ?_⟩
  have e1 : (p ++ t).take q.length = q := by rw [hu]; simp
  have e2 : q.take p.length = p := by
    rw [← e1, List.take_take, Nat.min_eq_left hl]
    simp
  have := List.take_append_drop p.length q
  rw [e2] at this
  exact this.symm

abbrev State := List ByteArray → Option (Option Bool)

/-- A fresh selection that keeps all, at p; nothing below it. -/
def putT (S : State) (p : List ByteArray) : State := fun q => if pfx p q then (if q = p then some (some true) else none) else S q

def isNode : Option (Option Bool) → Bool
  | some (some _) => true
  | _ => false

/-- A selection that keeps nothing, at p, where there is none. -/
def mk (S : State) (p : List ByteArray) : State := if isNode (S p) then S else fun q => if q = p then some (some false) else S q

/-- What bringIn does from the selection at 'pre' on. -/
def bi : List ByteArray → State → List ByteArray → State
  | [], S, _ => S
  | x :: t, S, pre =>
    if S (pre ++ [x]) = none ∧ S pre = some (some true) then S
    else if t.isEmpty then putT S (pre ++ [x])
    else bi t (mk S (pre ++ [x])) (pre ++ [x])

section
variable (rest : Bool) (L : List ByteArray)

def inL (x : ByteArray) : Bool := L.any fun y => decide (y = x)

/-- Does the path bring something in at all? -/
def act : List ByteArray → Bool
  | [] => false
  | x :: _ => inL L x || !rest

def any1 (Q : List (List ByteArray)) (q : List ByteArray) : Bool := Q.any fun p => act rest L p && pfx p q && decide (p ≠ q)
def any2 (Q : List (List ByteArray)) (q : List ByteArray) : Bool := Q.any fun p => act rest L p && decide (p = q)
def any3 (Q : List (List ByteArray)) (q : List ByteArray) : Bool := Q.any fun p => act rest L p && pfx q p

/-- The tree that the paths of Q bring about. -/
def fin (Q : List (List ByteArray)) : State := fun q =>
  if q = [] then some (some rest)
  else if any1 rest L Q q then none
  else if any2 rest L Q q then some (some true)
  else if any3 rest L Q q then some (some false)
  else if L.any (fun x => decide (q = [x])) then some none
  else none

theorem any_congr {α : Type} {f : α → Bool} {l l' : List α} (h : ∀ x, x ∈ l ↔ x ∈ l') : l.any f = l'.any f := by
  rw [Bool.eq_iff_iff, List.any_eq_true, List.any_eq_true]
  constructor
  · rintro ⟨x, h1, h2⟩; exact ⟨x, (h x).1 h1, h2⟩
  · rintro ⟨x, h1, h2⟩; exact ⟨x, (h x).2 h1, h2⟩

theorem fin_congr {Q Q' : List (List ByteArray)} (h : ∀ x, x ∈ Q ↔ x ∈ Q') : fin rest L Q = fin rest L Q' := by
  funext q
  unfold fin any1 any2 any3
  rw [any_congr (f := fun p => act rest L p && pfx p q && decide (p ≠ q)) h, any_congr (f := fun p => act rest L p && decide (p = q)) h, any_congr (f := fun p => act rest L p && pfx q p) h]

/-- Halfway: the prefixes of 'pre' are selections that keep nothing of themselves. -/
def mid (Q : List (List ByteArray)) (pre : List ByteArray) : State := fun q => if q ≠ [] ∧ pfx q pre = true then some (some false) else fin rest L Q q

variable {rest L}

theorem act_ne {p : List ByteArray} (h : act rest L p = true) : p ≠ [] := by
  intro e
  subst e
  simp [act] at h

theorem any1_true {Q : List (List ByteArray)} {p q : List ByteArray} (hp : p ∈ Q) (ha : act rest L p = true) (h : pfx p q = true) (hne : p ≠ q) : any1 rest L Q q = true :=
  List.any_eq_true.2 ⟨p, hp, by simp [ha, h, hne]⟩
theorem any1_false {Q : List (List ByteArray)} {q : List ByteArray} (h : ∀ p, p ∈ Q → act rest L p = true → pfx p q = true → p = q) : any1 rest L Q q = false := by
  rw [Bool.eq_false_iff]
  intro h'
  obtain ⟨p, h1, h2⟩ := List.any_eq_true.1 h'
  simp only [Bool.and_eq_true, decide_eq_true_eq] at h2
  exact h2.2 (h p h1 h2.1.1 h2.1.2)
theorem any2_true {Q : List (List ByteArray)} {q : List ByteArray} (hp : q ∈ Q) (ha : act rest L q = true) : any2 rest L Q q = true :=
  List.any_eq_true.2 ⟨q, hp, by simp [ha]⟩
theorem any2_false {Q : List (List ByteArray)} {q : List ByteArray} (h : q ∈ Q → act rest L q = true → False) : any2 rest L Q q = false := by
  rw [Bool.eq_false_iff]
  intro h'
  obtain ⟨p, h1, h2⟩ := List.any_eq_true.1 h'
  simp only [Bool.and_eq_true, decide_eq_true_eq] at h2
  obtain ⟨h3, rfl⟩ := h2
  exact h h1 h3
theorem any3_true {Q : List (List ByteArray)} {p q : List ByteArray} (hp : p ∈ Q) (ha : act rest L p = true) (h : pfx q p = true) : any3 rest L Q q = true :=
  List.any_eq_true.2 ⟨p, hp, by simp [ha, h]⟩

/-- No path of Q that brings something in is a prefix of pre. -/
def NoPfx (rest : Bool) (L : List ByteArray) (Q : List (List ByteArray)) (pre : List ByteArray) : Prop := ∀ q, q ∈ Q → act rest L q = true → pfx q pre = false

theorem bi_mid {Q : List (List ByteArray)} {p : List ByteArray} (hp : act rest L p = true) : ∀ t pre, p = pre ++ t → t ≠ [] → NoPfx rest L Q pre → bi t (mid rest L Q pre) pre = fin rest L (p :: Q) := by
  intro t
  induction t with
  | nil => intro pre _ h; exact absurd rfl h
  | cons x t ih =>
    intro pre hpt _ hno
    have hpre' : pfx (pre ++ [x]) p = true := (pfx_iff _ _).2 ⟨t, by rw [hpt]; simp⟩
    have hprep : pfx pre p = true := (pfx_iff _ _).2 ⟨x :: t, hpt⟩
    have hne : pre ++ [x] ≠ [] := by simp
    have hnp : pfx (pre ++ [x]) pre = false := by
      rw [Bool.eq_false_iff]
      intro h
      have := pfx_len h
      simp only [List.length_append, List.length_cons, List.length_nil] at this
      omega
    have hS1 : mid rest L Q pre (pre ++ [x]) = fin rest L Q (pre ++ [x]) := by simp [mid, hnp]
    have hS0 : pre ≠ [] → mid rest L Q pre pre = some (some false) := fun h => by simp [mid, h, pfx_refl]
    -- no path of Q is a proper prefix of pre ++ [x]
    have hpro : ∀ q, q ∈ Q → act rest L q = true → pfx q (pre ++ [x]) = true → q = pre ++ [x] := by
      intro q hq ha h
      refine Classical.byContradiction fun hne' => ?_
      have := pfx_snoc h hne'
      rw [hno q hq ha] at this
      cases this
    have hnstop : ¬ (mid rest L Q pre (pre ++ [x]) = none ∧ mid rest L Q pre pre = some (some true)) := by
      rintro ⟨h1, h2⟩
      by_cases e : pre = []
      · subst e
        have hr : rest = true := by
          have : mid rest L Q [] [] = some (some rest) := by simp [mid, fin]
          rw [this] at h2
          simpa using h2
        have hin : inL L x = true := by
          rw [hpt] at hp
          simp only [List.nil_append, act, hr, Bool.not_true, Bool.or_false] at hp
          exact hp
        rw [hS1] at h1
        simp only [List.nil_append] at h1
        unfold fin at h1
        rw [if_neg (by simp), if_neg (by rw [any1_false (by simpa using hpro)]; simp)] at h1
        have hL : L.any (fun y => decide ([x] = [y])) = true := by
          unfold inL at hin
          obtain ⟨y, hy1, hy2⟩ := List.any_eq_true.1 hin
          exact List.any_eq_true.2 ⟨y, hy1, by simp at hy2 ⊢; exact hy2.symm⟩
        rw [hL] at h1
        split at h1
        · cases h1
        · split at h1
          · cases h1
          · simp at h1
      · rw [hS0 e] at h2
        simp at h2
    rw [bi, if_neg hnstop]
    cases t with
    | nil =>
      -- the last name: the fresh selection
      simp only [List.isEmpty_nil, if_true]
      have hpe : p = pre ++ [x] := hpt
      rw [← hpe]
      rw [← hpe] at hpro
      funext q
      unfold putT
      by_cases hq0 : q = []
      · subst hq0
        have : pfx p [] = false := by
          rw [hpe]
          cases pre <;> simp [pfx]
        simp [this, mid, fin]
      by_cases hpq : pfx p q = true
      · rw [if_pos hpq]
        by_cases hqp : q = p
        · subst hqp
          rw [if_pos rfl]
          unfold fin
          rw [if_neg hq0, if_neg (by
            rw [any1_false (fun r hr ha h => ?_)]
            · simp
            · rcases List.mem_cons.1 hr with e | e
              · exact e
              · exact hpro r e ha h), if_pos (any2_true (by simp) hp)]
        · rw [if_neg hqp]
          unfold fin
          rw [if_neg hq0, if_pos (any1_true (by simp) hp hpq (fun e => hqp e.symm))]
      · rw [if_neg hpq]
        have hpq' : pfx p q = false := by simpa using hpq
        have hqp : p ≠ q := fun e => by rw [e, pfx_refl] at hpq; exact hpq rfl
        have e1 : any1 rest L (p :: Q) q = any1 rest L Q q := by simp [any1, hpq']
        have e2 : any2 rest L (p :: Q) q = any2 rest L Q q := by simp [any2, hqp]
        by_cases hq : pfx q p = true
        · have hqpre : pfx q pre = true := by rw [hpe] at hq hqp; exact pfx_snoc hq (fun e => hqp e.symm)
          have a1 : any1 rest L Q q = false := any1_false (fun r hr ha h => by have := pfx_trans h hqpre; rw [hno r hr ha] at this; cases this)
          have a2 : any2 rest L Q q = false := any2_false (fun hr ha => by rw [hno q hr ha] at hqpre; cases hqpre)
          unfold fin mid
          rw [if_pos ⟨hq0, hqpre⟩, if_neg hq0, e1, a1, e2, a2, any3_true (by simp) hp hq]
          simp
        · have hq' : pfx q p = false := by simpa using hq
          have hqpre : ¬ pfx q pre = true := fun h => hq (pfx_trans h hprep)
          have e3 : any3 rest L (p :: Q) q = any3 rest L Q q := by simp [any3, hq']
          unfold mid
          rw [if_neg (fun h => hqpre h.2)]
          unfold fin
          rw [e1, e2, e3]
    | cons y t' =>
      simp only [List.isEmpty_cons, Bool.false_eq_true, if_false]
      by_cases hin : pre ++ [x] ∈ Q ∧ act rest L (pre ++ [x]) = true
      · -- that path is brought in already: it stands whole, and the walk stops at the next name
        obtain ⟨hin, hact⟩ := hin
        have hnode : fin rest L Q (pre ++ [x]) = some (some true) := by
          unfold fin
          rw [if_neg hne, any1_false hpro, any2_true hin hact]
          simp
        have hmk : mk (mid rest L Q pre) (pre ++ [x]) = mid rest L Q pre := by
          unfold mk
          rw [hS1, hnode]
          simp [isNode]
        have hnext : mid rest L Q pre (pre ++ [x] ++ [y]) = none := by
          have h1 : pfx (pre ++ [x] ++ [y]) pre = false := by
            rw [Bool.eq_false_iff]
            intro h
            have := pfx_len h
            simp only [List.length_append, List.length_cons, List.length_nil] at this
            omega
          unfold mid
          rw [if_neg (fun h => by rw [h1] at h; cases h.2)]
          unfold fin
          rw [if_neg (by simp), if_pos (any1_true hin hact ((pfx_iff _ _).2 ⟨[y], rfl⟩) (by simp))]
        rw [hmk, bi, if_pos ⟨hnext, by rw [hS1]; exact hnode⟩]
        funext q
        by_cases hq0 : q = []
        · subst hq0; simp [mid, fin]
        have hlen : p.length ≥ pre.length + 2 := by rw [hpt]; simp
        by_cases hqpre : pfx q pre = true
        · have a1 : any1 rest L (p :: Q) q = false := any1_false (fun r hr ha h => by
            rcases List.mem_cons.1 hr with e | e
            · subst e
              have := pfx_len h
              have := pfx_len hqpre
              omega
            · have := pfx_trans h hqpre
              rw [hno r e ha] at this; cases this)
          have a2 : any2 rest L (p :: Q) q = false := any2_false (fun hr ha => by
            rcases List.mem_cons.1 hr with e | e
            · subst e
              have := pfx_len hqpre
              omega
            · rw [hno q e ha] at hqpre; cases hqpre)
          unfold mid
          rw [if_pos ⟨hq0, hqpre⟩]
          unfold fin
          rw [if_neg hq0, a1, a2, any3_true (by simp) hp (pfx_trans hqpre hprep)]
          simp
        · unfold mid
          rw [if_neg (fun h => hqpre h.2)]
          -- behind pre ++ [x] nothing turns
          by_cases hlong : pfx (pre ++ [x]) q = true ∧ pre ++ [x] ≠ q
          · unfold fin
            rw [if_neg hq0, if_neg hq0, any1_true hin hact hlong.1 hlong.2, any1_true (List.mem_cons_of_mem _ hin) hact hlong.1 hlong.2]
            rfl
          · have hpq : pfx p q = false := by
              rw [Bool.eq_false_iff]
              intro h
              have h1 := pfx_trans hpre' h
              have h2 : pre ++ [x] = q := Classical.byContradiction fun e => hlong ⟨h1, e⟩
              have := pfx_len h
              rw [← h2] at this
              simp at this
              omega
            have hqp : p ≠ q := fun e => by rw [e, pfx_refl] at hpq; cases hpq
            have e1 : any1 rest L (p :: Q) q = any1 rest L Q q := by simp [any1, hpq]
            have e2 : any2 rest L (p :: Q) q = any2 rest L Q q := by simp [any2, hqp]
            by_cases hq : q = pre ++ [x]
            · subst hq
              unfold fin
              rw [if_neg hne, if_neg hne, e1, e2, any1_false hpro, any2_true hin hact]
              simp
            · have hq3 : pfx q p = false := by
                rw [Bool.eq_false_iff]
                intro h
                by_cases hl : q.length ≤ pre.length
                · exact hqpre (pfx_of_pfx h hprep hl)
                · have h1 : pfx (pre ++ [x]) q = true := pfx_of_pfx hpre' h (by simp; omega)
                  exact hlong ⟨h1, fun e => hq e.symm⟩
              have e3 : any3 rest L (p :: Q) q = any3 rest L Q q := by simp [any3, hq3]
              unfold fin
              rw [e1, e2, e3]
      · -- one selection more on the way
        have hmk : mk (mid rest L Q pre) (pre ++ [x]) = mid rest L Q (pre ++ [x]) := by
          have a1 : any1 rest L Q (pre ++ [x]) = false := any1_false hpro
          have a2 : any2 rest L Q (pre ++ [x]) = false := any2_false (fun h1 h2 => hin ⟨h1, h2⟩)
          have hne2 : ∀ q, q ≠ pre ++ [x] → ((q ≠ [] ∧ pfx q pre = true) ↔ (q ≠ [] ∧ pfx q (pre ++ [x]) = true)) := fun q hq =>
            ⟨fun h => ⟨h.1, pfx_trans h.2 ((pfx_iff _ _).2 ⟨[x], rfl⟩)⟩, fun h => ⟨h.1, pfx_snoc h.2 hq⟩⟩
          funext q
          by_cases hq : q = pre ++ [x]
          · subst hq
            have hr : mid rest L Q (pre ++ [x]) (pre ++ [x]) = some (some false) := by simp [mid, pfx_refl]
            rw [hr]
            unfold mk
            rw [hS1]
            by_cases hn : isNode (fin rest L Q (pre ++ [x])) = true
            · rw [if_pos hn, hS1]
              unfold fin at hn ⊢
              rw [if_neg hne, a1, a2] at hn ⊢
              simp only [Bool.false_eq_true, if_false] at hn ⊢
              split
              · rfl
              · rename_i h3
                rw [if_neg h3] at hn
                split at hn <;> simp [isNode] at hn
            · rw [if_neg hn, if_pos rfl]
          · have hr : mid rest L Q (pre ++ [x]) q = mid rest L Q pre q := by
              unfold mid
              by_cases h : q ≠ [] ∧ pfx q pre = true
              · rw [if_pos h, if_pos ((hne2 q hq).1 h)]
              · rw [if_neg h, if_neg (fun h' => h ((hne2 q hq).2 h'))]
            rw [hr]
            unfold mk
            split
            · rfl
            · show (if q = pre ++ [x] then some (some false) else mid rest L Q pre q) = _
              rw [if_neg hq]
        rw [hmk]
        refine ih (pre ++ [x]) (by rw [hpt]; simp) (by simp) ?_
        intro q hq ha
        rw [Bool.eq_false_iff]
        intro h
        have := hpro q hq ha h
        subst this
        exact hin ⟨hq, ha⟩

/-- BRINGING IN A PATH ADDS IT TO THE SET. -/
theorem bi_fin (Q : List (List ByteArray)) (p : List ByteArray) : bi p (fin rest L Q) [] = fin rest L (p :: Q) := by
  by_cases ha : act rest L p = true
  · have hm : mid rest L Q [] = fin rest L Q := by
      funext q
      unfold mid
      rw [if_neg]
      rintro ⟨h1, h2⟩
      cases q with
      | nil => exact h1 rfl
      | cons a q => simp [pfx] at h2
    have := bi_mid (Q := Q) ha p [] rfl (act_ne ha) (fun q hq hq' => by
      cases q with
      | nil => simp [act] at hq'
      | cons a q => simp [pfx])
    rw [hm] at this
    exact this
  · have ha' : act rest L p = false := by simpa using ha
    have hf : fin rest L (p :: Q) = fin rest L Q := by
      funext q
      have e1 : any1 rest L (p :: Q) q = any1 rest L Q q := by simp [any1, ha']
      have e2 : any2 rest L (p :: Q) q = any2 rest L Q q := by simp [any2, ha']
      have e3 : any3 rest L (p :: Q) q = any3 rest L Q q := by simp [any3, ha']
      unfold fin
      rw [e1, e2, e3]
    rw [hf]
    cases p with
    | nil => rfl
    | cons x t =>
      simp only [act, Bool.or_eq_false_iff, Bool.not_eq_false'] at ha'
      obtain ⟨hx, hr⟩ := ha'
      have h1 : fin rest L Q [x] = none := by
        have a1 : any1 rest L Q [x] = false := any1_false (fun r _ hra h => pfx_eq h (by
          cases r with
          | nil => simp [act] at hra
          | cons a r => simp))
        have a2 : any2 rest L Q [x] = false := any2_false (fun _ h => by simp [act, hx, hr] at h)
        have a3 : any3 rest L Q [x] = false := by
          rw [Bool.eq_false_iff]
          intro h'
          obtain ⟨r, _, h2⟩ := List.any_eq_true.1 h'
          simp only [Bool.and_eq_true] at h2
          obtain ⟨u, hu⟩ := (pfx_iff _ _).1 h2.2
          rw [hu] at h2
          simp [act, hx, hr] at h2
        have a4 : L.any (fun y => decide ([x] = [y])) = false := by
          rw [Bool.eq_false_iff]
          intro h'
          obtain ⟨y, hy1, hy2⟩ := List.any_eq_true.1 h'
          have : inL L x = true := List.any_eq_true.2 ⟨y, hy1, by simp at hy2 ⊢; exact hy2.symm⟩
          rw [hx] at this
          cases this
        unfold fin
        rw [if_neg (by simp), a1, a2, a3, a4]
        simp
      rw [bi, if_pos ⟨h1, by rw [hr]; simp [fin]⟩]

/-- The paths one after the other. -/
def bis (S : State) : List (List ByteArray) → State
  | [] => S
  | p :: ps => bis (bi p S []) ps

theorem bis_fin (ps : List (List ByteArray)) : ∀ Q, bis (fin rest L Q) ps = fin rest L (ps.reverse ++ Q) := by
  induction ps with
  | nil => intro Q; rfl
  | cons p ps ih =>
    intro Q
    rw [bis, bi_fin, ih (p :: Q)]
    simp

theorem bis_append (S : State) (ps qs : List (List ByteArray)) : bis S (ps ++ qs) = bis (bis S ps) qs := by
  induction ps generalizing S with
  | nil => rfl
  | cons p ps ih => exact ih _

/-- ONCE IN ORDER, OR BACKWARDS AND THEN FORWARDS: THE SAME TREE. -/
theorem order_free (ps : List (List ByteArray)) : bis (fin rest L []) ps = bis (bis (fin rest L []) ps.reverse) ps := by
  rw [← bis_append, bis_fin, bis_fin]
  apply fin_congr
  intro x
  simp

end

end Go.Proofs.Qxb6600609a
