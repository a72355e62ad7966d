/-
  A tree of selections in memory. Over worlds alone: no walk.
-/
import Derived.Test.Qxb6600609aMaps
import Derived.Test.Qxb6600609aPaths
import Derived.Deep.OwnRows
import Derived.WalkSmall
namespace Go.Proofs.Qxb6600609a
open Go.RowKit Go.SMaps

/-- What a selection's map holds at a name. -/
def chv (S : State) (ad : List ByteArray → Nat) (p : List ByteArray) (x : ByteArray) : Option Value :=
  match S (p ++ [x]) with
  | none => none
  | some none => some (.pointer none)
  | some (some _) => some (.pointer (some ⟨ad (p ++ [x]), 0, none⟩))

def IsN (S : State) (p : List ByteArray) : Prop := ∃ r, S p = some (some r)

structure Rep (B : Nat) (w : World) (S : State) (ad : List ByteArray → Nat) (mm : List ByteArray → Option Nat) : Prop where
  root : IsN S []
  wf : ∀ p x, S (p ++ [x]) ≠ none → IsN S p
  node : ∀ p r, S p = some (some r) → w.heap[ad p]? = some (.cells #[.bool r, .map (mm p)] 46 (0, 0))
  nomap : ∀ p, IsN S p → mm p = none → ∀ x, S (p ++ [x]) = none
  map : ∀ p b, IsN S p → mm p = some b → ∃ n, SMap w b (chv S ad p) n
  inj : ∀ p q, IsN S p → IsN S q → ad p = ad q → p = q
  injm : ∀ p q b, IsN S p → IsN S q → mm p = some b → mm q = some b → p = q
  ge : ∀ p, IsN S p → B ≤ ad p
  gem : ∀ p b, IsN S p → mm p = some b → B ≤ b

/-- A fresh selection at p; nothing below it. -/
def graft (S : State) (p : List ByteArray) (r : Bool) : State := fun q => if pfx p q then (if q = p then some (some r) else none) else S q

theorem putT_graft (S : State) (p : List ByteArray) : putT S p = graft S p true := rfl

section
variable {B : Nat} {w w' : World} {S : State} {ad : List ByteArray → Nat} {mm : List ByteArray → Option Nat}

theorem Rep.wf_long (h : Rep B w S ad mm) : ∀ t p, t ≠ [] → S (p ++ t) ≠ none → IsN S p := by
  intro t
  induction t with
  | nil => intro p h; exact absurd rfl h
  | cons x t ih =>
    intro p _ hS
    cases t with
    | nil => exact h.wf p x hS
    | cons y t =>
      have e : p ++ x :: y :: t = (p ++ [x]) ++ (y :: t) := by simp
      rw [e] at hS
      obtain ⟨r, hr⟩ := ih (p ++ [x]) (by simp) hS
      exact h.wf p x (by rw [hr]; simp)

theorem Rep.mk_graft (h : Rep B w S ad mm) {p : List ByteArray} (hn : ¬ IsN S p) : Qxb6600609a.mk S p = Qxb6600609a.graft S p false := by
  have hi : isNode (S p) = false := by
    rcases hS : S p with _ | _ | r
    · rfl
    · rfl
    · exact absurd ⟨r, hS⟩ hn
  funext q
  unfold Qxb6600609a.mk Qxb6600609a.graft
  rw [hi]
  simp only [Bool.false_eq_true, if_false]
  by_cases hq : q = p
  · subst hq; simp [pfx_refl]
  · rw [if_neg hq]
    by_cases hpq : pfx p q = true
    · rw [if_pos hpq, if_neg hq]
      obtain ⟨t, rfl⟩ := (pfx_iff p q).1 hpq
      refine Classical.byContradiction fun hne => hn (h.wf_long t p ?_ hne)
      intro e
      subst e
      exact hq (by simp)
    · rw [if_neg hpq]

theorem Rep.mk_node (_h : Rep B w S ad mm) {p : List ByteArray} (hn : IsN S p) : Qxb6600609a.mk S p = S := by
  obtain ⟨r, hr⟩ := hn
  unfold Qxb6600609a.mk
  rw [hr]
  rfl

/-- The tree reads on in every later world that keeps the blocks it had. -/
theorem Rep.below (h : Rep B w S ad mm) (hb : Below w.heap.size w w') : Rep B w' S ad mm := by
  refine ⟨h.root, h.wf, fun p r hp => ?_, h.nomap, fun p b hp hm => ?_, h.inj, h.injm, h.ge, h.gem⟩
  · rw [hb.block _ (lt_of_block (h.node p r hp))]; exact h.node p r hp
  · obtain ⟨n, hs⟩ := h.map p b hp hm
    exact ⟨n, hs.of_block (hb.block _ hs.lt)⟩

/-- What 'name' leaves: the selection's own block and its map; all else as it was. -/
structure Named (w w' : World) (b : Nat) (r : Bool) (mo : Option Nat) (m : ByteArray → Option Value) (x : ByteArray) (v : Value) (bm : Nat) : Prop where
  blk : w'.heap[b]? = some (.cells #[.bool r, .map (some bm)] 46 (0, 0))
  map : ∃ n, SMap w' bm (fun y => if y = x then some v else m y) n
  old : ∀ k, mo = some k → bm = k
  new : mo = none → w.heap.size ≤ bm
  other : ∀ k, k < w.heap.size → k ≠ b → some k ≠ mo → w'.heap[k]? = w.heap[k]?
  os : w'.os = w.os
  tape : w'.tape = w.tape
  output : w'.output = w.output
  size : w.heap.size ≤ w'.heap.size

/-- A fresh selection is laid under the name x of the selection at p. -/
theorem Rep.graft (h : Rep B w S ad mm) {p : List ByteArray} {x : ByteArray} {r r' : Bool} (hp : S p = some (some r)) {w1 : World} (hw1 : w1 = w.alloc (.cells #[.bool r', .map none] 46)) (hB : B ≤ w.heap.size)
    {bm : Nat} (hn : Named w1 w' (ad p) r (mm p) (chv S ad p) x (.pointer (some ⟨w.heap.size, 0, none⟩)) bm) :
    Rep B w' (graft S (p ++ [x]) r') (fun q => if q = p ++ [x] then w.heap.size else ad q) (fun q => if q = p ++ [x] then none else if q = p then some bm else mm q) ∧ Below B w w' := by
  have hpn : IsN S p := ⟨r, hp⟩
  have hs1 : w1.heap.size = w.heap.size + 1 := by rw [hw1]; simp
  have hold : ∀ k, k < w.heap.size → w1.heap[k]? = w.heap[k]? := fun k hk => by rw [hw1]; exact Below.heap_alloc _ _ _ hk
  have hadp := lt_of_block (h.node p r hp)
  have hpx : p ≠ p ++ [x] := fun e => by have := congrArg List.length e; simp at this
  have hnpx : pfx (p ++ [x]) p = false := by
    rw [Bool.eq_false_iff]
    intro e
    have := pfx_len e
    simp only [List.length_append, List.length_cons, List.length_nil] at this
    omega
  -- the nodes of the new tree
  have gn : ∀ q, IsN (Qxb6600609a.graft S (p ++ [x]) r') q → q = p ++ [x] ∨ (q ≠ p ++ [x] ∧ pfx (p ++ [x]) q = false ∧ IsN S q) := by
    rintro q ⟨s, hq⟩
    unfold Qxb6600609a.graft at hq
    by_cases e : q = p ++ [x]
    · exact .inl e
    · by_cases e2 : pfx (p ++ [x]) q = true
      · rw [if_pos e2, if_neg e] at hq; cases hq
      · rw [if_neg e2] at hq
        exact .inr ⟨e, by simpa using e2, s, hq⟩
  have gS : ∀ q, pfx (p ++ [x]) q = false → Qxb6600609a.graft S (p ++ [x]) r' q = S q := fun q hq => by unfold Qxb6600609a.graft; rw [if_neg (by rw [hq]; simp)]
  have gx : Qxb6600609a.graft S (p ++ [x]) r' (p ++ [x]) = some (some r') := by unfold Qxb6600609a.graft; rw [if_pos (pfx_refl _), if_pos rfl]
  have gb : ∀ y, Qxb6600609a.graft S (p ++ [x]) r' (p ++ [x] ++ [y]) = none := fun y => by
    unfold Qxb6600609a.graft
    rw [if_pos ((pfx_iff _ _).2 ⟨[y], rfl⟩), if_neg (fun e => by have := congrArg List.length e; simp at this)]
  -- a block of the elder tree that is neither p's nor its map's
  have keepN : ∀ q s, S q = some (some s) → q ≠ p → w'.heap[ad q]? = w.heap[ad q]? := fun q s hq hqp => by
    have hlt := lt_of_block (h.node q s hq)
    rw [hn.other (ad q) (by omega) (fun e => hqp (h.inj q p ⟨s, hq⟩ hpn e)) ?_, hold _ hlt]
    intro e
    obtain ⟨n, hsm⟩ := h.map p (ad q) hpn e.symm
    obtain ⟨es, clock, hb, _⟩ := hsm
    rw [h.node q s hq] at hb
    cases hb
  have keepM : ∀ q b, IsN S q → mm q = some b → q ≠ p → w'.heap[b]? = w.heap[b]? := fun q b hq hm hqp => by
    obtain ⟨n, hsm⟩ := h.map q b hq hm
    rw [hn.other b (by have := hsm.lt; omega) ?_ ?_, hold _ hsm.lt]
    · intro e
      obtain ⟨es, clock, hb, _⟩ := hsm
      rw [e, h.node p r hp] at hb
      cases hb
    · intro e
      exact hqp (h.injm q p b hq hpn hm e.symm)
  have hbmge : B ≤ bm := by
    rcases hm : mm p with _ | k
    · have := hn.new hm; omega
    · rw [hn.old k hm]; exact h.gem p k hpn hm
  -- the new map's block is no other's
  have hbmne : ∀ q b, IsN S q → mm q = some b → q ≠ p → b ≠ bm := fun q b hq hm hqp e => by
    rcases hmp : mm p with _ | k
    · have h1 := hn.new hmp
      obtain ⟨n, hsm⟩ := h.map q b hq hm
      have := hsm.lt
      omega
    · have h1 := hn.old k hmp
      exact hqp (h.injm q p b hq hpn hm (by rw [hmp, ← h1, ← e]))
  refine ⟨⟨?_, ?_, ?_, ?_, ?_, ?_, ?_, ?_, ?_⟩, ?_⟩
  · obtain ⟨s, hs⟩ := h.root
    exact ⟨s, by rw [gS [] (by cases p <;> simp [pfx])]; exact hs⟩
  · intro q y hq
    by_cases e : pfx (p ++ [x]) (q ++ [y]) = true
    · by_cases e2 : q ++ [y] = p ++ [x]
      · have := List.append_inj_left' e2 rfl
        subst this
        exact ⟨r, by rw [gS _ hnpx]; exact hp⟩
      · unfold Qxb6600609a.graft at hq
        rw [if_pos e, if_neg e2] at hq
        exact absurd rfl hq
    · have e' : pfx (p ++ [x]) (q ++ [y]) = false := by simpa using e
      rw [gS _ e'] at hq
      obtain ⟨s, hs⟩ := h.wf q y hq
      have : pfx (p ++ [x]) q = false := by
        rw [Bool.eq_false_iff]
        intro e3
        exact e (pfx_trans e3 ((pfx_iff _ _).2 ⟨[y], rfl⟩))
      exact ⟨s, by rw [gS _ this]; exact hs⟩
  · intro q s hq
    rcases gn q ⟨s, hq⟩ with e | ⟨e, e2, _⟩
    · subst e
      rw [gx] at hq
      simp only [Option.some.injEq] at hq
      subst hq
      simp only [if_true]
      rw [hn.other w.heap.size (by omega) (by omega) ?_, hw1]
      · exact heap_alloc_new _ _
      · intro e
        obtain ⟨n, hsm⟩ := h.map p _ hpn e.symm
        have := hsm.lt
        omega
    · rw [gS q e2] at hq
      rw [if_neg e, if_neg e]
      by_cases eq : q = p
      · subst eq
        rw [hp] at hq
        simp only [Option.some.injEq] at hq
        subst hq
        rw [if_pos rfl]
        exact hn.blk
      · rw [if_neg eq, keepN q s hq eq]
        exact h.node q s hq
  · intro q hq hm y
    rcases gn q hq with e | ⟨e, e2, hqn⟩
    · subst e; exact gb y
    · rw [if_neg e] at hm
      by_cases eq : q = p
      · rw [if_pos eq] at hm; cases hm
      · rw [if_neg eq] at hm
        have h1 := h.nomap q hqn hm y
        by_cases e3 : pfx (p ++ [x]) (q ++ [y]) = true
        · have h4 : p ++ [x] = q ++ [y] := by
            refine Classical.byContradiction fun hne => ?_
            have := pfx_snoc e3 hne
            rw [e2] at this; cases this
          exact absurd (List.append_inj_left' h4 rfl).symm eq
        · rw [gS _ (by simpa using e3)]; exact h1
  · intro q b hq hm
    rcases gn q hq with e | ⟨e, e2, hqn⟩
    · rw [if_pos e] at hm; cases hm
    · rw [if_neg e] at hm
      by_cases eq : q = p
      · subst eq
        rw [if_pos rfl] at hm
        cases hm
        obtain ⟨n, hsm⟩ := hn.map
        refine ⟨n, hsm.congr fun y => ?_⟩
        unfold chv
        by_cases ey : y = x
        · subst ey
          rw [gx]
          simp
        · have hne : q ++ [y] ≠ q ++ [x] := fun e => ey (by simpa using e)
          have hnp : pfx (q ++ [x]) (q ++ [y]) = false := by
            rw [Bool.eq_false_iff]
            intro e3
            exact hne (pfx_eq e3 (by simp)).symm
          rw [gS _ hnp, if_neg ey]
          rcases S (q ++ [y]) with _ | _ | s
          · rfl
          · rfl
          · simp [hne]
      · rw [if_neg eq] at hm
        obtain ⟨n, hsm⟩ := h.map q b hqn hm
        refine ⟨n, (hsm.of_block (keepM q b hqn hm eq)).congr fun y => ?_⟩
        have e3 : pfx (p ++ [x]) (q ++ [y]) = false := by
          rw [Bool.eq_false_iff]
          intro e3
          have h4 : p ++ [x] = q ++ [y] := by
            refine Classical.byContradiction fun hne => ?_
            have := pfx_snoc e3 hne
            rw [e2] at this; cases this
          exact eq (List.append_inj_left' h4 rfl).symm
        unfold chv
        rw [gS _ e3]
        have hne : q ++ [y] ≠ p ++ [x] := fun e => eq (List.append_inj_left' e rfl)
        rcases S (q ++ [y]) with _ | _ | s
        · rfl
        · rfl
        · simp [hne]
  · intro q q' hq hq' e
    rcases gn q hq with e1 | ⟨e1, _, hqn⟩ <;> rcases gn q' hq' with e2 | ⟨e2, _, hqn'⟩
    · rw [e1, e2]
    · simp only [if_pos e1, if_neg e2] at e
      obtain ⟨s, hs⟩ := hqn'
      have := lt_of_block (h.node q' s hs)
      omega
    · simp only [if_neg e1, if_pos e2] at e
      obtain ⟨s, hs⟩ := hqn
      have := lt_of_block (h.node q s hs)
      omega
    · simp only [if_neg e1, if_neg e2] at e
      exact h.inj q q' hqn hqn' e
  · intro q q' b hq hq' hm hm'
    rcases gn q hq with e1 | ⟨e1, _, hqn⟩
    · rw [if_pos e1] at hm; cases hm
    rcases gn q' hq' with e2 | ⟨e2, _, hqn'⟩
    · rw [if_pos e2] at hm'; cases hm'
    rw [if_neg e1] at hm
    rw [if_neg e2] at hm'
    by_cases eq : q = p
    · by_cases eq' : q' = p
      · rw [eq, eq']
      · rw [if_pos eq] at hm
        rw [if_neg eq'] at hm'
        cases hm
        exact absurd rfl (hbmne q' _ hqn' hm' eq')
    · rw [if_neg eq] at hm
      by_cases eq' : q' = p
      · rw [if_pos eq'] at hm'
        cases hm'
        exact absurd rfl (hbmne q _ hqn hm eq)
      · rw [if_neg eq'] at hm'
        exact h.injm q q' b hqn hqn' hm hm'
  · intro q hq
    rcases gn q hq with e1 | ⟨e1, _, hqn⟩
    · rw [if_pos e1]; exact hB
    · rw [if_neg e1]; exact h.ge q hqn
  · intro q b hq hm
    rcases gn q hq with e1 | ⟨e1, _, hqn⟩
    · rw [if_pos e1] at hm; cases hm
    · rw [if_neg e1] at hm
      by_cases eq : q = p
      · rw [if_pos eq] at hm; cases hm; exact hbmge
      · rw [if_neg eq] at hm; exact h.gem q b hqn hm
  · refine ⟨hn.os.trans (by rw [hw1]; rfl), hn.tape.trans (by rw [hw1]; rfl), hn.output.trans (by rw [hw1]; rfl), by have := hn.size; omega, fun k hk => ?_⟩
    rw [hn.other k (by omega) (fun e => by have := h.ge p hpn; omega) (fun e => by have := h.gem p k hpn e.symm; omega), hold k (by omega)]

end

end Go.Proofs.Qxb6600609a
