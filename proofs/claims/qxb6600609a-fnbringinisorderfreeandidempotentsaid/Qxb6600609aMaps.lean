/-
  Maps keyed by strings, by the function that they are: look-up, store, length. Over any program: no Go text in sight.
-/
import Derived.WalkKit
import Derived.MapKept
import Derived.WideLaws
namespace Go.SMaps
open Go.RowKit Go.MapKept

/-- Block b is a map keyed by strings; it holds n entries; at each string it holds what m says. -/
def SMap (w : World) (b : Nat) (m : ByteArray → Option Value) (n : Nat) : Prop :=
  ∃ es clock, w.heap[b]? = some (.map es clock) ∧ (∀ x ∈ es.toList, ∃ s, x.key = .string s) ∧ (es.toList.map (·.key)).Nodup ∧ es.size = n ∧
    ∀ s, (m s = none ∧ ∀ x ∈ es.toList, x.key ≠ .string s) ∨ ∃ x ∈ es.toList, x.key = .string s ∧ m s = some x.val

section
variable {P : Program} {w : World} {b : Nat} {m : ByteArray → Option Value} {n : Nat} {t k e : TypeId}

theorem SMap.lt (h : SMap w b m n) : b < w.heap.size := by
  obtain ⟨es, clock, hb, _⟩ := h
  exact (Array.getElem?_eq_some_iff.1 hb).1

theorem SMap.of_block {w' : World} (h : SMap w b m n) (e : w'.heap[b]? = w.heap[b]?) : SMap w' b m n := by
  obtain ⟨es, clock, hb, r⟩ := h
  exact ⟨es, clock, e.trans hb, r⟩

theorem SMap.made (w : World) : SMap (w.alloc (.map #[] 0)) w.heap.size (fun _ => none) 0 :=
  ⟨#[], 0, (heap_alloc w _).1, by simp, by simp, rfl, fun s => .inl ⟨rfl, by simp⟩⟩

theorem SMap.congr {m' : ByteArray → Option Value} (h : SMap w b m n) (e : ∀ s, m' s = m s) : SMap w b m' n := by
  have : m' = m := funext e
  rw [this]; exact h

theorem unique_key {l : List MapEntry} (hd : (l.map (·.key)).Nodup) {x y : MapEntry} (hx : x ∈ l) (hy : y ∈ l) (e : x.key = y.key) : x = y := by
  induction l with
  | nil => cases hx
  | cons a l ih =>
    simp only [List.map_cons, List.nodup_cons] at hd
    rcases List.mem_cons.1 hx with h1 | h1 <;> rcases List.mem_cons.1 hy with h2 | h2
    · rw [h1, h2]
    · subst h1
      exact absurd (List.mem_map.2 ⟨y, h2, e.symm⟩) hd.1
    · subst h2
      exact absurd (List.mem_map.2 ⟨x, h1, e⟩) hd.1
    · exact ih hd.2 h1 h2

/-- A look-up. -/
theorem SMap.look (h : SMap w b m n) (ht : P.underlying t = some (.map k e)) (hk : P.underlying k = some .string) {z : Value} (hz : (zeroValue e).run P w = .ok z w) (s : ByteArray) (c : Bool) :
    (Instr.lookup t (.map (some b)) (.string s) c).run P w = .ok (if c then .tuple #[(m s).getD z, .bool (m s).isSome] else (m s).getD z) w := by
  obtain ⟨es, clock, hb, hkeys, hd, hn, hm⟩ := h
  have hkk : ∀ x ∈ es.toList, IsKey .string x.key := fun x hx => by obtain ⟨s', e'⟩ := hkeys x hx; rw [e']; trivial
  have hck := fun em => run_checkKey (P := P) (w := w) (kt := k) (d := .string) (k := .string s) hk trivial em 9999
  rcases findNow_spec (d := .string) (k := .string s) trivial es.toList 0 hkk with ⟨h1, h2⟩ | ⟨j, x, h1, h2, h3⟩
  · have hms : m s = none := by
      rcases hm s with ⟨a, _⟩ | ⟨x, hx, hxk, _⟩
      · exact a
      · exact absurd hxk (h2 x hx)
    have hf := run_findKey (P := P) (w := w) (kt := k) hk h1
    simp [Instr.lookup, run_underlying ht, Go.MapKept.run_getObj_map hb, hck, hf, hz, hms, Result.andThen]
  · have hxm : x ∈ es.toList := List.mem_of_getElem? h2
    have hms : m s = some x.val := by
      rcases hm s with ⟨_, a⟩ | ⟨y, hy, hyk, hyv⟩
      · exact absurd h3 (a x hxm)
      · have := unique_key hd hxm hy (h3.trans hyk.symm)
        rw [this]; exact hyv
    have hf := run_findKey (P := P) (w := w) (kt := k) hk h1
    simp [Instr.lookup, run_underlying ht, Go.MapKept.run_getObj_map hb, hck, hf, hms, Result.andThen]

/-- A look-up in a nil map. -/
theorem look_nil (ht : P.underlying t = some (.map k e)) (hk : P.underlying k = some .string) {z : Value} (hz : (zeroValue e).run P w = .ok z w) (s : ByteArray) (c : Bool) :
    (Instr.lookup t (.map none) (.string s) c).run P w = .ok (if c then .tuple #[z, .bool false] else z) w := by
  have hck := fun em => run_checkKey (P := P) (w := w) (kt := k) (d := .string) (k := .string s) hk trivial em 9999
  have hf := run_findKey (P := P) (w := w) (kt := k) (k := .string s) (l := []) (a := none) hk rfl
  simp [Instr.lookup, run_underlying ht, hck, hf, hz, Result.andThen]

/-- The world behind a store. -/
def mput (P : Program) (t : TypeId) (b : Nat) (s : ByteArray) (v : Value) (w : World) : World :=
  match (Instr.mapUpdate t (.map (some b)) (.string s) v).run P w with
  | .ok _ w' => w'
  | _ => w

/-- A store. -/
theorem SMap.put (h : SMap w b m n) (ht : P.underlying t = some (.map k e)) (hk : P.underlying k = some .string) (s : ByteArray) (v : Value) :
    ∃ w', (Instr.mapUpdate t (.map (some b)) (.string s) v).run P w = .ok () w' ∧ SMap w' b (fun x => if x = s then some v else m x) (if (m s).isSome then n else n + 1) ∧ w.grownBy w' (some b) ∧ w'.heap.size = w.heap.size ∧ ∀ r, r ≠ b → w'.heap[r]? = w.heap[r]? := by
  obtain ⟨es, clock, hb, hkeys, hd, hn, hm⟩ := h
  have hkk : ∀ x ∈ es.toList, IsKey .string x.key := fun x hx => by obtain ⟨s', e'⟩ := hkeys x hx; rw [e']; trivial
  have hck := fun em => run_checkKey (P := P) (w := w) (kt := k) (d := .string) (k := .string s) hk trivial em 9999
  have hset := fun o => Go.MapKept.run_setObj_map (P := P) (w := w) o hb
  have hgrow : ∀ o, w.grownBy { w with heap := w.heap.setIfInBounds b o } (some b) := fun o => ⟨rfl, rfl, rfl, by simp, fun k _ hne => (heap_set (o' := o) hb).2 k (fun e => hne (by rw [e]))⟩
  rcases findNow_spec (d := .string) (k := .string s) trivial es.toList 0 hkk with ⟨h1, h2⟩ | ⟨j, x, h1, h2, h3⟩
  · have hms : m s = none := by
      rcases hm s with ⟨a, _⟩ | ⟨x, hx, hxk, _⟩
      · exact a
      · exact absurd hxk (h2 x hx)
    have hf := run_findKey (P := P) (w := w) (kt := k) hk h1
    refine ⟨_, by simp [Instr.mapUpdate, run_underlying ht, Go.MapKept.run_getObj_map hb, hck, hf, hset, Result.andThen]; rfl, ?_, hgrow _, by simp, (heap_set hb).2⟩
    refine ⟨es.push ⟨.string s, v, clock⟩, clock + 1, (heap_set hb).1, ?_, ?_, by simp [hms, hn], ?_⟩
    · intro x hx
      rw [Array.toList_push] at hx
      rcases List.mem_append.1 hx with hx | hx
      · exact hkeys x hx
      · have : x = ⟨.string s, v, clock⟩ := by simpa using hx
        subst this; exact ⟨s, rfl⟩
    · rw [Array.toList_push, List.map_append, List.nodup_append]
      refine ⟨hd, by simp, ?_⟩
      intro a ha c hc e
      have hc' : c = .string s := by simpa using hc
      obtain ⟨x, hx, hxa⟩ := List.mem_map.1 ha
      exact h2 x hx (by rw [hxa, e, hc'])
    · intro s'
      rw [Array.toList_push]
      by_cases e : s' = s
      · subst e
        exact .inr ⟨⟨.string s', v, clock⟩, by simp, rfl, by simp⟩
      · rcases hm s' with ⟨a, c⟩ | ⟨x, hx, hxk, hxv⟩
        · refine .inl ⟨by simp [e, a], ?_⟩
          intro x hx
          rcases List.mem_append.1 hx with hx | hx
          · exact c x hx
          · have : x = ⟨.string s, v, clock⟩ := by simpa using hx
            subst this
            simp only [ne_eq, Value.string.injEq]
            exact fun h => e h.symm
        · exact .inr ⟨x, List.mem_append.2 (.inl hx), hxk, by simp [e, hxv]⟩
  · have hxm : x ∈ es.toList := List.mem_of_getElem? h2
    have hms : m s = some x.val := by
      rcases hm s with ⟨_, a⟩ | ⟨y, hy, hyk, hyv⟩
      · exact absurd h3 (a x hxm)
      · have := unique_key hd hxm hy (h3.trans hyk.symm)
        rw [this]; exact hyv
    have hf := run_findKey (P := P) (w := w) (kt := k) hk h1
    have hj : es[j]? = some x := by rw [← Array.getElem?_toList]; exact h2
    have hjl : j < es.size := (Array.getElem?_eq_some_iff.1 hj).1
    have hjx : es[j] = x := by rw [Array.getElem?_eq_getElem hjl] at hj; exact Option.some.inj hj
    have hsame : Instr.sameBits 10000 (.string s) (.string s) = true := by simp [Instr.sameBits, bytes_beq]
    have hst : (Instr.keyThatStays (.string s) (.string s)).run P w = .ok (.string s) w := by simp [Instr.keyThatStays, hsame]
    refine ⟨_, by simp [Instr.mapUpdate, run_underlying ht, Go.MapKept.run_getObj_map hb, hck, hf, hj, h3, hst, hset, Result.andThen]; rfl, ?_, hgrow _, by simp, (heap_set hb).2⟩
    have hl : (es.modify j fun e => { e with key := .string s, val := v }).toList = es.toList.set j { x with key := .string s, val := v } := by
      rw [Array.toList_modify]
      apply List.ext_getElem?
      intro i
      rw [List.getElem?_modify, List.getElem?_set]
      by_cases ei : j = i
      · subst ei
        simp [hjl, hjx]
      · simp [ei]
    have hkm : ((es.toList.set j { x with key := .string s, val := v }).map (·.key)) = es.toList.map (·.key) := by
      rw [List.map_set]
      apply List.ext_getElem?
      intro i
      rw [List.getElem?_set]
      by_cases ei : j = i
      · subst ei
        simp [hjl, hjx, h3]
      · simp [ei]
    have hmem : ∀ y, y ∈ es.toList.set j { x with key := .string s, val := v } ↔ (y = { x with key := .string s, val := v }) ∨ (y ∈ es.toList ∧ y.key ≠ .string s) := by
      intro y
      constructor
      · intro hy
        obtain ⟨i, hi, hyi⟩ := List.mem_iff_getElem.1 hy
        rw [List.getElem_set] at hyi
        by_cases ei : j = i
        · rw [if_pos ei] at hyi
          exact .inl hyi.symm
        · rw [if_neg ei] at hyi
          refine .inr ⟨hyi ▸ List.getElem_mem _, ?_⟩
          intro hk'
          have hi' : i < es.toList.length := by simpa using hi
          have h5 : (es.toList.map (·.key))[i]'(by simpa using hi') = (es.toList.map (·.key))[j]'(by simpa using hjl) := by
            rw [List.getElem_map, List.getElem_map, hyi, hk']
            have : es.toList[j]'(by simpa using hjl) = x := by
              have := h2
              rw [List.getElem?_eq_getElem (by simpa using hjl)] at this
              exact Option.some.inj this
            rw [this, h3]
          have := (List.getElem_inj hd).1 h5
          omega
      · rintro (rfl | ⟨hy, hne⟩)
        · exact List.mem_set (by simpa using hjl) _
        · obtain ⟨i, hi, rfl⟩ := List.mem_iff_getElem.1 hy
          have hij : i ≠ j := by
            intro e
            subst e
            have := h2
            rw [List.getElem?_eq_getElem hi] at this
            rw [Option.some.inj this] at hne
            exact hne h3
          refine List.mem_iff_getElem.2 ⟨i, by simpa using hi, ?_⟩
          rw [List.getElem_set_ne (fun e => hij e.symm)]
    refine ⟨_, clock, (heap_set hb).1, ?_, ?_, by simp [hms, hn], ?_⟩
    · rw [hl]
      intro y hy
      rcases (hmem y).1 hy with rfl | ⟨hy, _⟩
      · exact ⟨s, rfl⟩
      · exact hkeys y hy
    · rw [hl, hkm]; exact hd
    · intro s'
      rw [hl]
      by_cases e : s' = s
      · subst e
        exact .inr ⟨_, (hmem _).2 (.inl rfl), rfl, by simp⟩
      · rcases hm s' with ⟨a, c⟩ | ⟨y, hy, hyk, hyv⟩
        · refine .inl ⟨by simp [e, a], ?_⟩
          intro y hy
          rcases (hmem y).1 hy with rfl | ⟨hy, _⟩
          · simp only [ne_eq, Value.string.injEq]
            exact fun h => e h.symm
          · exact c y hy
        · refine .inr ⟨y, (hmem y).2 (.inr ⟨hy, ?_⟩), hyk, by simp [e, hyv]⟩
          rw [hyk]
          simp only [ne_eq, Value.string.injEq]
          exact e

/-- The store, as an equation on its run; what the world behind it holds. -/
theorem SMap.put_eq (h : SMap w b m n) (ht : P.underlying t = some (.map k e)) (hk : P.underlying k = some .string) (s : ByteArray) (v : Value) :
    (Instr.mapUpdate t (.map (some b)) (.string s) v).run P w = .ok () (mput P t b s v w) ∧ SMap (mput P t b s v w) b (fun x => if x = s then some v else m x) (if (m s).isSome then n else n + 1) ∧ w.grownBy (mput P t b s v w) (some b) ∧ (mput P t b s v w).heap.size = w.heap.size ∧ ∀ r, r ≠ b → (mput P t b s v w).heap[r]? = w.heap[r]? := by
  obtain ⟨w', h1, h2⟩ := h.put ht hk s v
  have e : mput P t b s v w = w' := by unfold mput; rw [h1]
  rw [e]
  exact ⟨h1, h2⟩

/-- The length. -/
theorem SMap.len (h : SMap w b m n) (ht : P.underlying t = some (.map k e)) (ty : TypeId) : (Builtin.len_ #[t] ty #[.map (some b)]).run P w = .ok (.int .i64 (n : Int)) w := by
  obtain ⟨es, clock, hb, _, _, hn, _⟩ := h
  simp [Builtin.len_, run_underlying ht, Go.MapKept.run_getObj_map hb, hn, Result.andThen, goInt]

theorem len_nil (ht : P.underlying t = some (.map k e)) (ty : TypeId) : (Builtin.len_ #[t] ty #[.map none]).run P w = .ok (.int .i64 0) w := by
  simp [Builtin.len_, run_underlying ht, Result.andThen, goInt]

theorem keys_sub {l l' : List MapEntry} (hd : (l.map (·.key)).Nodup) (h : ∀ x ∈ l, ∃ y ∈ l', y.key = x.key) : l.length ≤ l'.length := by
  induction l generalizing l' with
  | nil => simp
  | cons a l ih =>
    simp only [List.map_cons, List.nodup_cons] at hd
    obtain ⟨y, hy, hya⟩ := h a (by simp)
    obtain ⟨l1, l2, rfl⟩ := List.append_of_mem hy
    have := ih (l' := l1 ++ l2) hd.2 (fun x hx => by
      obtain ⟨u, hu, hux⟩ := h x (by simp [hx])
      refine ⟨u, ?_, hux⟩
      rcases List.mem_append.1 hu with hu | hu
      · exact List.mem_append.2 (.inl hu)
      · rcases List.mem_cons.1 hu with e | hu
        · subst e
          exact absurd (List.mem_map.2 ⟨x, hx, by rw [← hux, hya]⟩) hd.1
        · exact List.mem_append.2 (.inr hu))
    simp only [List.length_cons, List.length_append] at this ⊢
    omega

/-- Two maps with the same keys are of one length. -/
theorem SMap.same_len {w' : World} {b' n' : Nat} {m' : ByteArray → Option Value} (h : SMap w b m n) (h' : SMap w' b' m' n') (e : ∀ s, (m s).isSome = (m' s).isSome) : n = n' := by
  obtain ⟨es, _, _, hk, hd, hn, hm⟩ := h
  obtain ⟨es', _, _, hk', hd', hn', hm'⟩ := h'
  have key : ∀ (l l' : List MapEntry) (f f' : ByteArray → Option Value), (∀ x ∈ l, ∃ s, x.key = .string s) → (∀ s, (f s = none ∧ ∀ x ∈ l, x.key ≠ .string s) ∨ ∃ x ∈ l, x.key = .string s ∧ f s = some x.val) →
      (∀ s, (f' s = none ∧ ∀ x ∈ l', x.key ≠ .string s) ∨ ∃ x ∈ l', x.key = .string s ∧ f' s = some x.val) → (∀ s, (f s).isSome = (f' s).isSome) → ∀ x ∈ l, ∃ y ∈ l', y.key = x.key := by
    intro l l' f f' h1 h2 h3 h4 x hx
    obtain ⟨s, hs⟩ := h1 x hx
    have hf : (f s).isSome = true := by
      rcases h2 s with ⟨_, h⟩ | ⟨y, _, _, hy⟩
      · exact absurd hs (h x hx)
      · rw [hy]; rfl
    rw [h4 s] at hf
    rcases h3 s with ⟨h, _⟩ | ⟨y, hy, hyk, _⟩
    · rw [h] at hf; cases hf
    · exact ⟨y, hy, by rw [hyk, hs]⟩
  have a1 := keys_sub hd (key es.toList es'.toList m m' hk hm hm' e)
  have a2 := keys_sub hd' (key es'.toList es.toList m' m hk' hm' hm (fun s => (e s).symm))
  simp only [Array.length_toList] at a1 a2
  omega

theorem SMap.len_zero (h : SMap w b m n) (e : ∀ s, m s = none) : n = 0 := by
  obtain ⟨es, _, _, hk, _, hn, hm⟩ := h
  rcases es with ⟨l⟩
  cases l with
  | nil => exact hn.symm
  | cons x l =>
    obtain ⟨s, hs⟩ := hk x (by simp)
    rcases hm s with ⟨_, h⟩ | ⟨y, _, _, hy⟩
    · exact absurd hs (h x (by simp))
    · rw [e s] at hy; cases hy

end

end Go.SMaps
