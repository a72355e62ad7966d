import Derived.Test.Qxb6600609aBuild
namespace Go.Proofs.Qxb6600609a
open Go.RowKit Go.SMaps

theorem Try.info9 : (Try.prog.info? 9).map (fun i => (i.zero, i.size, i.bytes)) = some (some (.string ByteArray.empty), 1, 16) := by kernel_rfl
theorem Try.info22 : (Try.prog.info? 22).map (fun i => (i.zero, i.size, i.bytes)) = some (some (.slice none 0 0), 1, 24) := by kernel_rfl

theorem SRow.of_rowIs {w : World} {b n B : Nat} {t : TypeId} {f : Nat → Value} {z : Nat → ByteArray} (h : w.rowIs b t n f) (hf : ∀ i, i < n → f i = .string (z i)) (hB : b < B) : SRow B w (some ⟨b, 0, none⟩) n z := by
  intro i hi
  refine ⟨b, 0, hB, rfl, ?_⟩
  rw [Nat.zero_add, h.cell hi, hf i hi]

theorem cell_other_block {w : World} {b b' off off' : Nat} (v : Value) (h : b' ≠ b) : (w.setCell ⟨b, off, none⟩ v).cell? ⟨b', off', none⟩ = w.cell? ⟨b', off', none⟩ := by
  simp only [World.cell?]
  rw [heap_setCell_other _ _ _ _ h]

/-- A row of paths below B. -/
def PRow (B : Nat) (w : World) (a : Option Addr) (Ps : List (List ByteArray)) : Prop :=
  ∀ i, i < Ps.length → ∃ b off ai ci, b < B ∧ a = some ⟨b, off, none⟩ ∧ w.cell? ⟨b, off + i, none⟩ = some (.slice ai (Ps.getD i []).length ci) ∧
    (ai = none → (Ps.getD i []).length = 0) ∧ (Ps.getD i []).length ≤ maxLen ∧ SRow B w ai (Ps.getD i []).length (fun j => (Ps.getD i []).getD j ByteArray.empty)

theorem PRow.below {B : Nat} {w w' : World} {a : Option Addr} {Ps : List (List ByteArray)} (h : PRow B w a Ps) (hb : Below B w w') : PRow B w' a Ps := by
  intro i hi
  obtain ⟨b, off, ai, ci, hlt, ha, hc, h1, h2, h3⟩ := h i hi
  exact ⟨b, off, ai, ci, hlt, ha, by rw [hb.cell (p := ⟨b, off + i, none⟩) hlt]; exact hc, h1, h2, h3.below hb⟩

theorem PRow.mono {B B' : Nat} {w : World} {a : Option Addr} {Ps : List (List ByteArray)} (h : PRow B w a Ps) (hB : B ≤ B') : PRow B' w a Ps := by
  intro i hi
  obtain ⟨b, off, ai, ci, hlt, ha, hc, h1, h2, h3⟩ := h i hi
  exact ⟨b, off, ai, ci, by omega, ha, hc, h1, h2, h3.mono hB⟩

def CopyPost (n : Nat) (z : Nat → ByteArray) (w : World) (e : Ending) (w' : World) : Prop :=
  ∃ a', e = .returned (.slice a' n n) ∧ (a' = none → n = 0) ∧ (∀ i, i < n → ∃ b off, w.heap.size ≤ b ∧ b < w'.heap.size ∧ a' = some ⟨b, off, none⟩ ∧ w'.cell? ⟨b, off + i, none⟩ = some (.string (z i))) ∧ Below w.heap.size w w'

set_option maxHeartbeats 400000 in
theorem copyS (a : Option Addr) (n c B : Nat) (z : Nat → ByteArray) (w : World) (hlen : n ≤ 100000) (hB : B ≤ w.heap.size) (hr : SRow B w a n z) (hnil : a = none → n = 0) :
    Calls Try.prog 8 #[.slice a n c] w (CopyPost n z w) := by
  have heq := fun w a l c => Lib.run_eql_slice_nil (P := Try.prog) w 22 9 a l c 0 0 Try.underlying22
  cases a with
  | none =>
    have hz := hnil rfl
    subst hz
    go_enter Try.func8, Try.ntmps8
    go_wp2
    go_ret
    exact ⟨none, rfl, fun _ => rfl, fun i hi => absurd hi (by omega), Below.refl _ _⟩
  | some x =>
    have hmk := run_make_row' (P := Try.prog) 22 9 _ 16 Try.underlying22 Try.info9 rfl .i64 .i64 n (by omega) (by omega)
    go_enter Try.func8, Try.ntmps8
    go_wp2
    go_loopw [4] (fun i wr => ∃ k : Nat, k ≤ n ∧ i = .int .i64 k ∧ wr.rowIs w.heap.size 9 n (fun j => .string (if j < k then z j else ByteArray.empty)) ∧ Below w.heap.size w wr) (fun i _ => n - (intOf i).toNat)
    case atStart => exact ⟨0, Nat.zero_le _, rfl, (World.rowIs_made _ _ _ _).congr (fun i _ => by simp), (Below.refl _ _).alloc (Nat.le_refl _) _⟩
    case round =>
      obtain ⟨k, hk, rfl, hrow, hbel⟩ := hrel
      by_cases hlt : k < n
      · obtain ⟨b, off, hb, hx, hc⟩ := hr k hlt
        simp only [Option.some.injEq] at hx
        subst hx
        have hc1 : wr.cell? ⟨b, off + k, none⟩ = some (.string (z k)) := by rw [hbel.cell (show (⟨b, off + k, none⟩ : Addr).block < w.heap.size from Nat.lt_of_lt_of_le hb hB)]; exact hc
        have hc2 := hrow.cell hlt
        have hf2 := hrow.frozen k
        go_wp2
        go_roundw
        case rel =>
          refine ⟨k + 1, by omega, by go_num, (hrow.set k _).congr (fun i hi => ?_), hbel.setCell (Nat.le_refl _) _⟩
          by_cases e : i = k
          · subst e; simp
          · have : i < k + 1 ↔ i < k := by omega
            simp [e, this]
        case measure => simp [intOf]; omega
      · go_wp2
        go_ret
        have hk' : k = n := by omega
        subst hk'
        exact ⟨some ⟨w.heap.size, 0, none⟩, rfl, (fun e => by cases e), fun i hi => ⟨w.heap.size, 0, Nat.le_refl _, hrow.lt, rfl, by rw [Nat.zero_add, hrow.cell hi, if_pos hi]⟩, hbel⟩

/-- The copies laid so far: apart from the outer row. -/
def Inner (b0 : Nat) (w : World) (Ps : List (List ByteArray)) (k : Nat) (f : Nat → Value) : Prop :=
  ∀ j, j < k → ∃ aj cj, f j = .slice aj (Ps.getD j []).length cj ∧ (aj = none → (Ps.getD j []).length = 0) ∧ (Ps.getD j []).length ≤ 70000 ∧
    ∀ i, i < (Ps.getD j []).length → ∃ b off, b ≠ b0 ∧ b < w.heap.size ∧ aj = some ⟨b, off, none⟩ ∧ w.cell? ⟨b, off + i, none⟩ = some (.string ((Ps.getD j []).getD i ByteArray.empty))

def CopyPPost (Ps : List (List ByteArray)) (w : World) (e : Ending) (w' : World) : Prop :=
  ∃ a', e = .returned (.slice a' Ps.length Ps.length) ∧ PRow w'.heap.size w' a' Ps ∧ Below w.heap.size w w'

set_option maxHeartbeats 1000000 in
theorem copyP (a : Option Addr) (c B : Nat) (Ps : List (List ByteArray)) (w : World) (hlen : Ps.length ≤ 5000) (hlens : ∀ i, (Ps.getD i []).length ≤ 70000) (hB : B ≤ w.heap.size) (hr : PRow B w a Ps) (hnil : a = none → Ps.length = 0) :
    Calls Try.prog 9 #[.slice a Ps.length c] w (CopyPPost Ps w) := by
  have heq := fun w a l c => Lib.run_eql_slice_nil (P := Try.prog) w 23 22 a l c 0 0 Try.underlying23
  obtain ⟨n, hn⟩ : ∃ n, n = Ps.length := ⟨_, rfl⟩
  rw [← hn]
  rw [← hn] at hnil hlen
  have HN : Hid (n = Ps.length) := hn
  clear hn
  cases a with
  | none =>
    have hz := hnil rfl
    subst hz
    go_enter Try.func9, Try.ntmps9
    go_wp2
    go_ret
    refine ⟨none, by rw [← HN.out]; rfl, fun i hi => absurd hi (by have := HN.out; omega), Below.refl _ _⟩
  | some x =>
    have HR : Hid (PRow B w (some x) Ps) := hr
    have HL : Hid (∀ i, (Ps.getD i []).length ≤ 70000) := hlens
    clear hr hlens
    have hmk := run_make_row' (P := Try.prog) 23 22 _ 24 Try.underlying23 Try.info22 rfl .i64 .i64 n (by omega) (by omega)
    go_enter Try.func9, Try.ntmps9
    go_wp2
    clear hmk
    obtain ⟨b0, hb0⟩ : ∃ b0, b0 = w.heap.size := ⟨_, rfl⟩
    rw [← hb0]
    have HB0 : Hid (b0 = w.heap.size) := hb0
    clear hb0
    go_loopw [4] (fun i wr => ∃ k : Nat, k ≤ n ∧ i = .int .i64 k ∧ Hid (Below w.heap.size w wr ∧ ∃ f, wr.rowIs b0 22 n f ∧ Inner b0 wr Ps k f)) (fun i _ => n - (intOf i).toNat)
    case atStart => exact ⟨0, Nat.zero_le _, rfl, (Below.refl _ _).alloc (Nat.le_refl _) _, _, by rw [HB0.out]; exact World.rowIs_made _ _ _ _, fun j hj => absurd hj (by omega)⟩
    case round =>
      obtain ⟨k, hk, rfl, hI⟩ := hrel
      by_cases hlt : k < n
      · obtain ⟨hbel, f, hrow, hin⟩ := hI.out
        obtain ⟨b, off, ai, ci, hb, hx, hc, h1, h2, h3⟩ := HR.out k (by rw [← HN.out]; exact hlt)
        simp only [Option.some.injEq] at hx
        subst hx
        have hc1 : wr.cell? ⟨b, off + k, none⟩ = some (.slice ai (Ps.getD k []).length ci) := by rw [hbel.cell (show (⟨b, off + k, none⟩ : Addr).block < w.heap.size from Nat.lt_of_lt_of_le hb hB)]; exact hc
        have h3' := h3.below (hbel.mono hB)
        obtain ⟨lk, hlk⟩ : ∃ lk, lk = (Ps.getD k []).length := ⟨_, rfl⟩
        have hl70 : lk ≤ 70000 := by rw [hlk]; exact HL.out k
        rw [← hlk] at hc1 h1 h3'
        have HLK : Hid (lk = (Ps.getD k []).length) := hlk
        have HROW : Hid (wr.rowIs b0 22 n f) := hrow
        have HIN : Hid (Inner b0 wr Ps k f) := hin
        have HBEL : Hid (Below w.heap.size w wr) := hbel
        have HS : Hid (SRow B wr ai lk (fun j => (Ps.getD k []).getD j ByteArray.empty)) := h3'
        have HNIL : Hid (ai = none → lk = 0) := h1
        have hszr : b0 < wr.heap.size := hrow.lt
        clear hlk hrow hin hbel hc h1 h2 h3 h3' hI
        go_upto_region 7 with fail
        go_wp2_with fail
        refine (copyS ai lk ci B _ _ (by omega) (Nat.le_trans hB HBEL.out.size) HS.out HNIL.out).mono ?_
        rintro e w2 ⟨a', rfl, hn', hcells, hb2⟩
        have hrow2 : w2.rowIs b0 22 n f := by
          obtain ⟨cc, q1, q2⟩ := HROW.out
          exact ⟨cc, (hb2.block _ hszr).trans q1, q2⟩
        have HC2 : Hid (∀ i, i < lk → ∃ b off, wr.heap.size ≤ b ∧ b < w2.heap.size ∧ a' = some ⟨b, off, none⟩ ∧ w2.cell? ⟨b, off + i, none⟩ = some (.string ((Ps.getD k []).getD i ByteArray.empty))) := hcells
        have HN2 : Hid (a' = none → lk = 0) := hn'
        have HB2 : Hid (Below wr.heap.size wr w2) := hb2
        have hc2 := hrow2.cell hlt
        have hf2 := hrow2.frozen k
        have HROW2 : Hid (w2.rowIs b0 22 n f) := hrow2
        clear hcells hn' hb2 hrow2
        go_wp2
        go_roundw
        case rel =>
          refine ⟨k + 1, by omega, by go_num, ?_, _, HROW2.out.set k _, ?_⟩
          · exact (HBEL.out.trans (HB2.out.mono HBEL.out.size)).setCell (by rw [HB0.out]; exact Nat.le_refl _) _
          · intro j hj
            by_cases e : j = k
            · subst e
              refine ⟨a', lk, by rw [← HLK.out]; simp, by rw [← HLK.out]; exact HN2.out, by rw [← HLK.out]; exact hl70, fun i hi => ?_⟩
              obtain ⟨b1, o1, g1, g2, g3, g4⟩ := HC2.out i (by rw [HLK.out]; exact hi)
              refine ⟨b1, o1, by omega, by simpa using g2, g3, ?_⟩
              rw [cell_other_block _ (by omega)]
              exact g4
            · obtain ⟨aj, cj, i1, i2, i3, i4⟩ := HIN.out j (by omega)
              refine ⟨aj, cj, by simp [e, i1], i2, i3, fun i hi => ?_⟩
              obtain ⟨b1, o1, g1, g2, g3, g4⟩ := i4 i hi
              have := HB2.out.size
              refine ⟨b1, o1, g1, by simp; omega, g3, ?_⟩
              rw [cell_other_block _ g1, HB2.out.cell (show (⟨b1, o1 + i, none⟩ : Addr).block < wr.heap.size from g2)]
              exact g4
        case measure => simp [intOf]; omega
      · obtain ⟨hbel, f, hrow, hin⟩ := hI.out
        have HF : Hid (CopyPPost Ps w (.returned (.slice (some ⟨b0, 0, none⟩) n n)) wr) := by
          have hkn : k = n := by omega
          subst hkn
          refine ⟨_, by rw [HN.out], fun i hi => ?_, hbel⟩
          rw [← HN.out] at hi
          obtain ⟨aj, cj, i1, i2, i3, i4⟩ := hin i hi
          refine ⟨b0, 0, aj, cj, hrow.lt, rfl, by rw [Nat.zero_add, hrow.cell hi, i1], i2, by unfold maxLen; omega, fun j hj => ?_⟩
          obtain ⟨b1, o1, g1, g2, g3, g4⟩ := i4 j hj
          exact ⟨b1, o1, g2, g3, g4⟩
        clear hbel hrow hin hI
        go_wp2
        go_ret
        exact HF.out

end Go.Proofs.Qxb6600609a
