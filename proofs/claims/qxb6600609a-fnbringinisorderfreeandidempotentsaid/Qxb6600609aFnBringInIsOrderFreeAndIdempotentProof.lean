/-
  The proof of the row over its walk (the frame: the guide's own way).
-/
import Derived.Test.Qxb6600609aRows
import Derived.Test.Qxb6600609aLaw
import Derived.WalkKit
import Derived.ProofKit
import Derived.OpenShut
import Derived.ShutString
import Derived.ChangeOld
import Derived.Below
import Derived.SliceStrings
import Derived.Deep.Slices
namespace Go.Proofs.Qxb6600609a.fnBringInIsOrderFreeAndIdempotent
open Go.ChangeShapes Go.WideShapes Go.ChangeAt Go.RowKit
open Go.ChangeMaps (open_string shut_string)
set_option linter.unusedVariables false

theorem own : ownKnob Try.prog.godebug = none := by kernel_rfl
theorem laidOut : laidOutB Try.prog = true := by kernel_rfl

/-- What the walk is told of a slice of strings that came in. -/
def IsS (w : World) (a : Option Addr) (len cap : Nat) (zs : List ByteArray) : Prop :=
  (a = none ∧ len = 0 ∧ cap = 0 ∧ zs = []) ∨
  ∃ x, a = some x ∧ len ≤ cap ∧ cap ≤ maxLen ∧ zs.length = cap ∧ (∀ i, i < zs.length → w.cell? (x.add i) = some (.string (zs.getD i ByteArray.empty))) ∧ ∀ s ∈ zs, s.size ≤ maxLen

theorem cell_plain {w : World} {x : Addr} {v u : Value} {i : Nat} (h0 : w.cell? (x.add 0) = some u) (hc : w.cell? (x.add i) = some v) : ∃ b off, b < w.heap.size ∧ x = ⟨b, off, none⟩ ∧ w.cell? ⟨b, off + i, none⟩ = some v := by
  have hs := World.cell?_spot h0
  obtain ⟨b, off, spot⟩ := x
  have hs' : spot = none := by simpa [Addr.add] using hs
  subst hs'
  rw [add_plain] at hc
  refine ⟨b, off, ?_, rfl, hc⟩
  refine Classical.byContradiction fun hn => ?_
  simp [World.cell?, Array.getElem?_eq_none (Nat.le_of_not_lt hn)] at hc

theorem IsS.row {w : World} {a : Option Addr} {len cap : Nat} {zs : List ByteArray} (h : IsS w a len cap zs) :
    ∃ L : List ByteArray, L.length = len ∧ SRow w.heap.size w a L.length (fun i => L.getD i ByteArray.empty) ∧ (a = none → L.length = 0) ∧ L.length ≤ maxLen := by
  rcases h with ⟨rfl, rfl, rfl, rfl⟩ | ⟨x, rfl, h1, h2, h3, h4, h5⟩
  · exact ⟨[], rfl, fun i hi => absurd hi (by simp), fun _ => rfl, Nat.zero_le _⟩
  · have hl : (zs.take len).length = len := by rw [List.length_take]; omega
    refine ⟨zs.take len, hl, fun i hi => ?_, (fun e => by cases e), by omega⟩
    rw [hl] at hi
    obtain ⟨b, off, g1, g2, g3⟩ := cell_plain (h4 0 (by omega)) (h4 i (by omega))
    exact ⟨b, off, g1, by rw [g2], by rw [g3]; simp [hi]⟩

/-- .. of a slice of slices of strings. -/
def IsP (w : World) (a : Option Addr) (len : Nat) (Ps : List (List ByteArray)) : Prop := Ps.length = len ∧ PRow w.heap.size w a Ps ∧ (a = none → Ps.length = 0) ∧ Ps.length ≤ maxLen

theorem isP {H : Type} {enc : TypeId × Value → H} {W : World} {fuel : Nat} {cs : List Value} {x : DataW H × List MemPlace} {a : Option Addr} {len cap : Nat}
    (hf : DataW.trod enc Try.prog W 0 (fun _ => true) true fuel 23 cs = some x) (hcs : cs = [.slice a len cap]) : ∃ Ps, IsP W a len Ps := by
  subst hcs
  rcases Go.Deep.open_slice1 Try.underlying23 (by kernel_rfl) hf with ⟨e, _⟩ | ⟨x, l, c, m, n, V, D, Pl, e, _, h1, h2, h3, _, h5⟩
  · simp at e
    obtain ⟨rfl, rfl, rfl⟩ := e
    exact ⟨[], rfl, fun i hi => absurd hi (by simp), fun _ => rfl, Nat.zero_le _⟩
  · simp at e
    obtain ⟨rfl, rfl, rfl⟩ := e
    have h6 : len ≤ m := by rw [h3]; simp [h1]
    obtain ⟨f, hfx⟩ := Go.Deep.choose_lt (α := List ByteArray) (n := len) (p := fun i P => ∃ ai ci, V i = .slice ai P.length ci ∧ (ai = none → P.length = 0) ∧ P.length ≤ maxLen ∧ SRow W.heap.size W ai P.length (fun j => P.getD j ByteArray.empty)) (fun i hi => by
      obtain ⟨_, g2⟩ := h5 i (by omega)
      rcases open_strings Try.underlying22 Try.underlying9 (by kernel_rfl) g2 with ⟨e, _⟩ | ⟨y, l, c, zs, e, _, hl, hm, hz, _, hcell, hwz⟩
      · simp at e
        exact ⟨[], none, 0, e, fun _ => rfl, Nat.zero_le _, fun i hi => absurd hi (by simp)⟩
      · simp at e
        have : IsS W (some y) l c zs := .inr ⟨_, rfl, hl, hm, by simpa using hz, hcell, hwz⟩
        obtain ⟨L, q1, q2, q3, q4⟩ := this.row
        exact ⟨L, some y, c, by rw [e, q1], q3, q4, q2⟩)
    refine ⟨(List.range len).map f, by simp, fun i hi => ?_, (fun e => by cases e), by simp; omega⟩
    have hi' : i < len := by simpa using hi
    have eg : ((List.range len).map f).getD i [] = f i := by simp [hi']
    rw [eg]
    obtain ⟨ai, ci, g1, g2, g3, g4⟩ := hfx i hi'
    obtain ⟨b, off, k1, k2, k3⟩ := cell_plain (h5 0 (by omega)).1 (h5 i (by omega)).1
    exact ⟨b, off, ai, ci, k1, by rw [k2], by rw [k3, g1], g2, g3, g4⟩

theorem law' (r : Bool) (a1 a2 a3 : Option Addr) (l1 l2 l3 c1 c2 c3 : Nat) (zs : List ByteArray) (Ps Qs : List (List ByteArray)) (w : World) (h1 : IsS w a1 l1 c1 zs) (h2 : IsP w a2 l2 Ps) (h3 : IsP w a3 l3 Qs) :
    Calls Try.prog 4 #[.bool r, .slice a1 l1 c1, .slice a2 l2 c2, .slice a3 l3 c3] w (LawPost w) := by
  obtain ⟨L, rfl, g2, g3, g4⟩ := h1.row
  obtain ⟨rfl, p2, p3, p4⟩ := h2
  obtain ⟨rfl, q2, q3, q4⟩ := h3
  exact law r a1 a2 a3 c1 c2 c3 L Ps Qs w g4 p4 q4 g2 p2 q2 g3 p3 q3


set_option maxRecDepth 100000 in
theorem lifted (os : Os) (started : os.Started) (H : Type) (enc : TypeId × Value → H) :
    ReturnsInHanded {} Try.checked os 4 .any (Rows.fnBringInIsOrderFreeAndIdempotentSpec.pre6 enc Try.prog Try.f4 Rows.fnBringInIsOrderFreeAndIdempotentRow.domain false) (Rows.fnBringInIsOrderFreeAndIdempotentSpec.post enc Try.prog Try.f4 false true false false) := by
  refine returnsInHanded_of_change (C := Try.checked) own started (by kernel_rfl) Try.func4
    (ChangeSpec.witness6 (enc := enc) (C := Try.checked) false ⟨#[], #[.bool false, .slice none 0 0, .slice none 0 0, .slice none 0 0], []⟩ 8 (by kernel_rfl) (by kernel_rfl) (by kernel_rfl) (by kernel_rfl)) ?_
  intro W base args ds gs before hval0 hW hcnd _
  have hval : ∀ (j : Nat) t v, Try.f4.params[j]? = some t → args[j]? = some v → Value.okWide Try.prog W .any base t v := hval0
  have hW' := hW
  obtain ⟨p, q, hA0, hV, rfl, hfz, hnd⟩ := hW
  have hA : DataW.TrodAll enc Try.prog W 0 (fun _ => true) true Try.f4.params.toList args.toList ds p := hA0
  rw [Try.params4] at hA hval
  obtain ⟨v0, vs0, d0, ds0, p0, q0, hargs, rfl, rfl, h0, r0⟩ := trodAll_cons hA
  obtain ⟨v1, vs1, d1, ds1, p1, q1, rfl, rfl, rfl, h1, r1⟩ := trodAll_cons r0
  obtain ⟨v2, vs2, d2, ds2, p2, q2, rfl, rfl, rfl, h2, r2⟩ := trodAll_cons r1
  obtain ⟨v3, vs3, d3, ds3, p3, q3, rfl, rfl, rfl, h3, r3⟩ := trodAll_cons r2
  obtain ⟨rfl, rfl, rfl⟩ := trodAll_nil r3
  obtain rfl : args = #[v0, v1, v2, v3] := by cases args; simp_all
  obtain ⟨rfl, rfl⟩ := trodVars_none hV
  obtain ⟨x0, rfl, rfl, rfl⟩ := open_bool Try.underlying4 (hval 0 4 v0 rfl rfl) h0
  obtain ⟨a1, len1, cap1, rfl⟩ := okWide_slice Try.underlying22 (hval 1 22 v1 rfl rfl)
  have k1 := h1
  have lt1 : ∀ x ∈ p1, x.block < W.heap.size := by obtain ⟨m, hm⟩ := k1; exact DataW.trod_lt m _ _ _ hm
  obtain ⟨z1, w1⟩ : ∃ zs, IsS W a1 len1 cap1 zs := by
    obtain ⟨fuel, hf⟩ := h1
    rcases open_strings Try.underlying22 Try.underlying9 (by kernel_rfl) hf with ⟨hcs, _⟩ | ⟨x, l, c, zs, hcs, _, hl, hm, hz, _, hcell, hwz⟩
    · simp [Value.cells] at hcs
      obtain ⟨rfl, rfl, rfl⟩ := hcs
      exact ⟨[], .inl ⟨rfl, rfl, rfl, rfl⟩⟩
    · simp [Value.cells] at hcs
      obtain ⟨rfl, rfl, rfl⟩ := hcs
      exact ⟨zs, .inr ⟨_, rfl, hl, hm, by simpa using hz, hcell, hwz⟩⟩
  obtain ⟨a2, len2, cap2, rfl⟩ := okWide_slice Try.underlying23 (hval 2 23 v2 rfl rfl)
  have k2 := h2
  have lt2 : ∀ x ∈ p2, x.block < W.heap.size := by obtain ⟨m, hm⟩ := k2; exact DataW.trod_lt m _ _ _ hm
  obtain ⟨z2, w2⟩ : ∃ Ps, IsP W a2 len2 Ps := by
    obtain ⟨fuel, hf⟩ := h2
    exact isP (cap := cap2) hf (by simp [Value.cells])
  obtain ⟨a3, len3, cap3, rfl⟩ := okWide_slice Try.underlying23 (hval 3 23 v3 rfl rfl)
  have k3 := h3
  have lt3 : ∀ x ∈ p3, x.block < W.heap.size := by obtain ⟨m, hm⟩ := k3; exact DataW.trod_lt m _ _ _ hm
  obtain ⟨z3, w3⟩ : ∃ Ps, IsP W a3 len3 Ps := by
    obtain ⟨fuel, hf⟩ := h3
    exact isP (cap := cap3) hf (by simp [Value.cells])
  clear hA0 hval0
  refine (law' x0 a1 a2 a3 len1 len2 len3 cap1 cap2 cap3 z1 z2 z3 W w1 w2 w3).mono fun e W' ⟨he, bel⟩ => ?_
  subst he
  exact ⟨_, rfl, _, _, _, [], _, [], hW', trodAll_mk1 (shut_bool Try.underlying4 _), (trodAll_cons_mk (shut_bool Try.underlying4 _) (trodAll_cons_mk (Below.trod laidOut (by kernel_rfl) (of_decide_eq_true (by kernel_rfl)) k1 bel lt1) (trodAll_cons_mk (Below.trod laidOut (by kernel_rfl) (of_decide_eq_true (by kernel_rfl)) k2 bel lt2) (trodAll_cons_mk (Below.trod laidOut (by kernel_rfl) (of_decide_eq_true (by kernel_rfl)) k3 bel lt3) trodAll_mk0)))), rfl, bel.frame _, fun h => by cases h⟩

theorem over : Rows.fnBringInIsOrderFreeAndIdempotentRow.holds Try.pinned (OpenSpec.ofChange Rows.fnBringInIsOrderFreeAndIdempotentSpec) :=
  OpenClaim.holds_of_wide 4 Try.f4 rfl rfl rfl rfl rfl rfl rfl ⟨rfl, rfl, rfl, rfl, rfl⟩ rfl rfl rfl rfl rfl (by kernel_rfl) Try.func4 (by kernel_rfl)
    (of_decide_eq_true (by kernel_rfl)) (by unfold Func.isWrapper; first | (rw [if_pos (by decide +kernel)]; kernel_rfl) | (rw [if_neg (by decide +kernel)]; exact ⟨rfl, rfl⟩))
    (fun os started H enc _ => lifted os started H enc)

/-- THE STATEMENT -/
theorem proved : Rows.FnBringInIsOrderFreeAndIdempotentSaid := over
#print axioms proved
end Go.Proofs.Qxb6600609a.fnBringInIsOrderFreeAndIdempotent
