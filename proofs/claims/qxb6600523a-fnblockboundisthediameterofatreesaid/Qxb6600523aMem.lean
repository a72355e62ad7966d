/-
  What blockBound's own memory holds: the rows place, low, chain; the slices path and open. Over worlds alone: no walk.
-/
import Derived.Test.Qxb6600523aDist
import Derived.Test.Qxb6600523aDfs2
import Derived.WalkSmall
namespace Go.Proofs.Qxb6600523a
open Go.RowKit

def vi (n : Nat) : Value := .int .i64 (n : Int)
def pv1 (x : Nat × Nat) : List Value := [vi x.1, vi x.2]
/-- The path's cells, the top last. -/
def pv (path : List (Nat × Nat)) : List Value := path.reverse.flatMap pv1
def ov (opens : List Nat) : List Value := opens.reverse.map vi

theorem pv_cons (x : Nat × Nat) (r : List (Nat × Nat)) : pv (x :: r) = pv r ++ pv1 x := by simp [pv]
theorem ov_cons (x : Nat) (r : List Nat) : ov (x :: r) = ov r ++ [vi x] := by simp [ov]
theorem pv_length (p : List (Nat × Nat)) : (pv p).length = p.length * 2 := by
  induction p with
  | nil => rfl
  | cons x r ih => rw [pv_cons, List.length_append, ih]; simp only [pv1, List.length_cons, List.length_nil]; omega
theorem ov_length (p : List Nat) : (ov p).length = p.length := by simp [ov]

structure BM (B n : Nat) (w wr : World) (place low chain : Nat → Nat) (path : List (Nat × Nat)) (opens : List Nat) (vp vo : Value) : Prop where
  place : wr.rowIs B 3 n (fun j => vi (place j))
  low : wr.rowIs (B + 1) 3 n (fun j => vi (low j))
  chain : wr.rowIs (B + 2) 3 n (fun j => vi (chain j))
  path : wr.ownsRow (B + 3) 57 2 vp path.length (pv path)
  opens : wr.ownsRow (B + 3) 3 1 vo opens.length (ov opens)
  below : Below B w wr

section
variable {B n : Nat} {w wr w' : World} {place low chain : Nat → Nat} {path : List (Nat × Nat)} {opens : List Nat} {vp vo : Value}

theorem BM.size (h : BM B n w wr place low chain path opens vp vo) : B + 3 ≤ wr.heap.size := by have := h.chain.lt; omega

theorem BM.drewN (h : BM B n w wr place low chain path opens vp vo) (q : Nat) : BM B n w (wr.drewN q) place low chain path opens vp vo :=
  ⟨h.place, h.low, h.chain, h.path, h.opens, below_drewN h.below q⟩

theorem row_upd {f : Nat → Nat} {b : Nat} (h : wr.rowIs b 3 n (fun j => vi (f j))) (i v : Nat) : (wr.setCell ⟨b, i, none⟩ (vi v)).rowIs b 3 n (fun j => vi (upd f i v j)) := by
  refine (h.set i (vi v)).congr fun j _ => ?_
  unfold upd
  by_cases e : j = i <;> simp [e]

theorem own_other {e : TypeId} {size k : Nat} {v : Value} {xs : List Value} {base : Nat} (h : wr.ownsRow base e size v k xs) {a : Addr} (ha : a.block < base) (u : Value) : (wr.setCell a u).ownsRow base e size v k xs := ownsRow_setCell_below h ha u

theorem BM.setPlace (h : BM B n w wr place low chain path opens vp vo) (i v : Nat) : BM B n w (wr.setCell ⟨B, i, none⟩ (vi v)) (upd place i v) low chain path opens vp vo :=
  ⟨row_upd h.place i v, h.low.setOther (by simp) _, h.chain.setOther (by simp) _, own_other h.path (by simp) _, own_other h.opens (by simp) _, h.below.setCell (by simp) _⟩
theorem BM.setLow (h : BM B n w wr place low chain path opens vp vo) (i v : Nat) : BM B n w (wr.setCell ⟨B + 1, i, none⟩ (vi v)) place (upd low i v) chain path opens vp vo :=
  ⟨h.place.setOther (by simp) _, row_upd h.low i v, h.chain.setOther (by simp) _, own_other h.path (by simp) _, own_other h.opens (by simp) _, h.below.setCell (by simp) _⟩
theorem BM.setChain (h : BM B n w wr place low chain path opens vp vo) (i v : Nat) : BM B n w (wr.setCell ⟨B + 2, i, none⟩ (vi v)) place low (upd chain i v) path opens vp vo :=
  ⟨h.place.setOther (by simp) _, h.low.setOther (by simp) _, row_upd h.chain i v, own_other h.path (by simp) _, own_other h.opens (by simp) _, h.below.setCell (by simp) _⟩

theorem vi_of {a b : Nat} (h : a = b) : Value.int .i64 (a : Int) = vi b := by rw [h]; rfl
theorem vi_int {a : Int} {b : Nat} (h0 : 0 ≤ a) (h : a.toNat = b) : Value.int .i64 a = vi b := by
  have : a = (b : Int) := by omega
  rw [this]; rfl
theorem BM.setPlace2 (h : BM B n w wr place low chain path opens vp vo) (i v : Nat) {x : Value} (hx : x = vi v) : BM B n w (wr.setCell ⟨B, i, none⟩ x) (upd place i v) low chain path opens vp vo := by subst hx; exact h.setPlace i v
theorem BM.setLow2 (h : BM B n w wr place low chain path opens vp vo) (i v : Nat) {x : Value} (hx : x = vi v) : BM B n w (wr.setCell ⟨B + 1, i, none⟩ x) place (upd low i v) chain path opens vp vo := by subst hx; exact h.setLow i v
theorem BM.setChain2 (h : BM B n w wr place low chain path opens vp vo) (i v : Nat) {x : Value} (hx : x = vi v) : BM B n w (wr.setCell ⟨B + 2, i, none⟩ x) place low (upd chain i v) path opens vp vo := by subst hx; exact h.setChain i v

/-- The slice's shape where there is an element. -/
theorem own_shape {base : Nat} {e : TypeId} {size k : Nat} {v : Value} {xs : List Value} (h : wr.ownsRow base e size v (k + 1) xs) :
    ∃ g cap, v = .slice (some ⟨g, 0, none⟩) (k + 1) cap ∧ base ≤ g ∧ g < wr.heap.size ∧ k + 1 ≤ cap ∧ ∃ cur, wr.heap[g]? = some (.cells cur e (0, 0)) := by
  rcases h.2 with ⟨_, h0⟩ | ⟨g, cap, cur, hv, hg, hh, hn, _⟩
  · omega
  · exact ⟨g, cap, hv, hg, lt_of_block hh, hn, cur, hh⟩

theorem BM.shape_path {d nx : Nat} {r : List (Nat × Nat)} (h : BM B n w wr place low chain ((d, nx) :: r) opens vp vo) :
    ∃ g cap, vp = .slice (some ⟨g, 0, none⟩) (r.length + 1) cap ∧ r.length + 1 ≤ cap ∧ B + 3 ≤ g ∧ g < wr.heap.size ∧ wr.cell? ⟨g, r.length * 2, none⟩ = some (vi d) ∧ wr.cell? ⟨g, r.length * 2 + 1, none⟩ = some (vi nx) ∧ wr.frozen? ⟨g, r.length * 2 + 1, none⟩ = false := by
  obtain ⟨g, cap, rfl, h1, h2, h3, _⟩ := own_shape h.path
  have hl := pv_length r
  refine ⟨g, cap, rfl, h3, h1, h2, ?_, ?_, h.path.frozenAt _⟩
  · rw [h.path.cellAt _ (by omega), pv_cons, List.getElem?_append_right (by omega)]
    simp [hl, pv1]
  · rw [h.path.cellAt _ (by omega), pv_cons, List.getElem?_append_right (by omega)]
    simp [hl, pv1]

theorem BM.shape_open {o : Nat} {r : List Nat} (h : BM B n w wr place low chain path (o :: r) vp vo) :
    ∃ g cap, vo = .slice (some ⟨g, 0, none⟩) (r.length + 1) cap ∧ r.length + 1 ≤ cap ∧ B + 3 ≤ g ∧ g < wr.heap.size ∧ wr.cell? ⟨g, r.length, none⟩ = some (vi o) := by
  obtain ⟨g, cap, rfl, h1, h2, h3, _⟩ := own_shape h.opens
  have hl := ov_length r
  refine ⟨g, cap, rfl, h3, h1, h2, ?_⟩
  rw [h.opens.cellAt _ (by omega), ov_cons, List.getElem?_append_right (by omega)]
  simp [hl]

/-- Path and open lie in different blocks. -/
theorem BM.apart (h : BM B n w wr place low chain path opens vp vo) {g : Nat} (hp : vp.ownBlock = some g) : vo.ownBlock ≠ some g := by
  intro ho
  rcases h.path.2 with ⟨h0, _⟩ | ⟨g1, cap1, cur1, hv1, _, hh1, _⟩
  · subst h0; cases hp
  rcases h.opens.2 with ⟨h0, _⟩ | ⟨g2, cap2, cur2, hv2, _, hh2, _⟩
  · subst h0; cases ho
  subst hv1 hv2
  simp only [Value.ownBlock, Option.some.injEq] at hp ho
  subst hp ho
  rw [hh1] at hh2
  simp at hh2

/-- 'at.next++'. -/
theorem BM.next {d nx v : Nat} {r : List (Nat × Nat)} {g cap : Nat} (h : BM B n w wr place low chain ((d, nx) :: r) opens (.slice (some ⟨g, 0, none⟩) (r.length + 1) cap) vo) (hg : B + 3 ≤ g) :
    BM B n w (wr.setCell ⟨g, r.length * 2 + 1, none⟩ (vi v)) place low chain ((d, v) :: r) opens (.slice (some ⟨g, 0, none⟩) (r.length + 1) cap) vo := by
  have hl := pv_length r
  refine ⟨h.place.setOther (by simp; omega) _, h.low.setOther (by simp; omega) _, h.chain.setOther (by simp; omega) _, ?_, ?_, h.below.setCell (by simp; omega) _⟩
  · have := (h.path.stored (r.length * 2 + 1) (vi v)).1
    have e : (pv ((d, nx) :: r)).set (r.length * 2 + 1) (vi v) = pv ((d, v) :: r) := by
      rw [pv_cons, pv_cons, List.set_append_right _ _ (by omega), hl]
      simp [pv1]
    rw [e] at this
    exact this
  · exact ownsRow_setCell_other (a := ⟨g, r.length * 2 + 1, none⟩) h.opens (h.apart rfl) _

/-- 'path = append(path, step{..})'. -/
theorem BM.pushPath {x : Nat × Nat} {o : Obj} {v' : Value} (h : BM B n w wr place low chain path opens vp vo) (hown : w'.ownsRow (B + 3) 57 2 v' (path.length + 1) (pv path ++ pv1 x)) (hg : (wr.alloc o).grownBy w' vp.ownBlock) :
    BM B n w w' place low chain (x :: path) opens v' vo := by
  have hs := h.size
  have hp : ∀ k, vp.ownBlock = some k → B + 3 ≤ k := fun k hk => (h.path.lt k hk).1
  have keep : ∀ b, b < B + 3 → w'.heap[b]? = wr.heap[b]? := fun b hb => by
    rw [hg.block b (by simp; omega) (fun e => by have := hp b e.symm; omega)]
    exact Below.heap_alloc _ _ _ (by omega)
  refine ⟨h.place.of_block (keep _ (by omega)), h.low.of_block (keep _ (by omega)), h.chain.of_block (keep _ (by omega)), ?_, ?_, (h.below.alloc (by omega) o).grown hg (by simp; omega) (fun k hk => by have := hp k hk; omega)⟩
  · rw [pv_cons]; exact hown
  · refine (h.opens.alloc o).kept hg ?_
    rcases hvp : vp.ownBlock with _ | g
    · rcases hvo : vo.ownBlock with _ | g'
      · exact .inl rfl
      · exact .inr (by simp)
    · exact .inr (h.apart hvp)

/-- 'open = append(open, p)'. -/
theorem BM.pushOpen {x : Nat} {o : Obj} {v' : Value} (h : BM B n w wr place low chain path opens vp vo) (hown : w'.ownsRow (B + 3) 3 1 v' (opens.length + 1) (ov opens ++ [vi x])) (hg : (wr.alloc o).grownBy w' vo.ownBlock) :
    BM B n w w' place low chain path (x :: opens) vp v' := by
  have hs := h.size
  have hp : ∀ k, vo.ownBlock = some k → B + 3 ≤ k := fun k hk => (h.opens.lt k hk).1
  have keep : ∀ b, b < B + 3 → w'.heap[b]? = wr.heap[b]? := fun b hb => by
    rw [hg.block b (by simp; omega) (fun e => by have := hp b e.symm; omega)]
    exact Below.heap_alloc _ _ _ (by omega)
  refine ⟨h.place.of_block (keep _ (by omega)), h.low.of_block (keep _ (by omega)), h.chain.of_block (keep _ (by omega)), ?_, ?_, (h.below.alloc (by omega) o).grown hg (by simp; omega) (fun k hk => by have := hp k hk; omega)⟩
  · refine (h.path.alloc o).kept hg ?_
    rcases hvp : vp.ownBlock with _ | g
    · exact .inl rfl
    · exact .inr (fun e => h.apart hvp e.symm)
  · rw [ov_cons]; exact hown

theorem BM.popPath {x : Nat × Nat} {r : List (Nat × Nat)} {g cap : Nat} (h : BM B n w wr place low chain (x :: r) opens (.slice (some ⟨g, 0, none⟩) (r.length + 1) cap) vo) : BM B n w wr place low chain r opens (.slice (some ⟨g, 0, none⟩) r.length cap) vo := by
  refine ⟨h.place, h.low, h.chain, ?_, h.opens, h.below⟩
  have := h.path
  rw [pv_cons] at this
  exact ownsRow_pop (pv_length r) this

theorem BM.popOpen {x : Nat} {r : List Nat} {g cap : Nat} (h : BM B n w wr place low chain path (x :: r) vp (.slice (some ⟨g, 0, none⟩) (r.length + 1) cap)) : BM B n w wr place low chain path r vp (.slice (some ⟨g, 0, none⟩) r.length cap) := by
  refine ⟨h.place, h.low, h.chain, h.path, ?_, h.below⟩
  have := h.opens
  rw [ov_cons] at this
  exact ownsRow_pop (by rw [ov_length]; omega) this

end

end Go.Proofs.Qxb6600523a
