import Derived.Test.Qxb6604061aProg
import Derived.WalkSpells
import Derived.WalkLawsBesides
import Derived.Deep.OwnRows
import Derived.BigQuiet
import Derived.Deep.Cut
import Derived.Below
namespace Go.Proofs.Qxb6604061a
open Go.RowKit

theorem Try.info9 : (Try.prog.info? 9).map (fun i => (i.zero, i.size, i.bytes)) = some (some (.string ByteArray.empty), 1, 16) := by kernel_rfl
theorem Try.info4 : (Try.prog.info? 4).map (fun i => (i.zero, i.size, i.bytes)) = some (some (.bool false), 1, 1) := by kernel_rfl
theorem Try.info21 : (Try.prog.info? 21).map (fun i => (i.zero, i.size, i.bytes)) = some (some (.int .i32 0), 1, 4) := by kernel_rfl

/-- The world behind a name, with what is known of it. -/
theorem wp_gen {P : Program} {c : Code} {Q : Exit → Act → World → Prop} {a : Act} {w : World} (R : World → Prop) (h : R w) (k : ∀ w', R w' → Code.wp P c Q a w') : Code.wp P c Q a w := k w h

/-- A row that is read, in a block of K. -/
def VRow (K : Nat → Prop) (w : World) (a : Option Addr) (n : Nat) (f : Nat → Value) : Prop :=
  ∀ i, i < n → ∃ b off, K b ∧ a = some ⟨b, off, none⟩ ∧ w.cell? ⟨b, off + i, none⟩ = some (f i)

def iv (z : Nat → Int) (i : Nat) : Value := .int .i32 (z i)
def sv (z : Nat → ByteArray) (i : Nat) : Value := .string (z i)
def bv (z : Nat → Bool) (i : Nat) : Value := .bool (z i)

/-- The blocks of K are as they were. -/
structure Kept (K : Nat → Prop) (w w' : World) : Prop where
  os : w'.os = w.os
  tape : w'.tape = w.tape
  output : w'.output = w.output
  size : w.heap.size ≤ w'.heap.size
  block : ∀ k, K k → w'.heap[k]? = w.heap[k]?

theorem Kept.refl (K : Nat → Prop) (w : World) : Kept K w w := ⟨rfl, rfl, rfl, Nat.le_refl _, fun _ _ => rfl⟩
theorem Kept.trans {K : Nat → Prop} {w w' w'' : World} (h : Kept K w w') (h' : Kept K w' w'') : Kept K w w'' :=
  ⟨h'.os.trans h.os, h'.tape.trans h.tape, h'.output.trans h.output, Nat.le_trans h.size h'.size, fun k hk => (h'.block k hk).trans (h.block k hk)⟩
theorem Kept.mono {K K' : Nat → Prop} {w w' : World} (h : Kept K w w') (hk : ∀ b, K' b → K b) : Kept K' w w' := ⟨h.os, h.tape, h.output, h.size, fun k hb => h.block k (hk k hb)⟩
theorem Kept.of_below {B : Nat} {w w' : World} (h : Below B w w') : Kept (· < B) w w' := ⟨h.os, h.tape, h.output, h.size, h.block⟩
theorem Kept.below {B : Nat} {w w' : World} (h : Kept (· < B) w w') : Below B w w' := ⟨h.os, h.tape, h.output, h.size, h.block⟩
theorem Kept.cell {K : Nat → Prop} {w w' : World} (h : Kept K w w') {b off : Nat} (hb : K b) : w'.cell? ⟨b, off, none⟩ = w.cell? ⟨b, off, none⟩ := by
  simp only [World.cell?]
  rw [h.block b hb]

theorem VRow.kept {K : Nat → Prop} {w w' : World} {a : Option Addr} {n : Nat} {f : Nat → Value} (h : VRow K w a n f) (hk : Kept K w w') : VRow K w' a n f := by
  intro i hi
  obtain ⟨b, off, h1, h2, h3⟩ := h i hi
  exact ⟨b, off, h1, h2, (hk.cell h1).trans h3⟩

theorem VRow.mono {K K' : Nat → Prop} {w : World} {a : Option Addr} {n : Nat} {f : Nat → Value} (h : VRow K w a n f) (hk : ∀ b, K b → K' b) : VRow K' w a n f := by
  intro i hi
  obtain ⟨b, off, h1, h2, h3⟩ := h i hi
  exact ⟨b, off, hk b h1, h2, h3⟩

theorem VRow.below {B : Nat} {w w' : World} {a : Option Addr} {n : Nat} {f : Nat → Value} (h : VRow (· < B) w a n f) (hb : Below B w w') : VRow (· < B) w' a n f := h.kept (Kept.of_below hb)

theorem VRow.of_rowIs {K : Nat → Prop} {w : World} {b n : Nat} {t : TypeId} {f : Nat → Value} (h : w.rowIs b t n f) (hK : K b) : VRow K w (some ⟨b, 0, none⟩) n f := by
  intro i hi
  refine ⟨b, 0, hK, rfl, ?_⟩
  rw [Nat.zero_add, h.cell hi]

theorem VRow.lt {w : World} {a : Option Addr} {n : Nat} {f : Nat → Value} (h : VRow (fun _ => True) w a n f) : VRow (· < w.heap.size) w a n f := by
  intro i hi
  obtain ⟨b, off, h1, h2, h3⟩ := h i hi
  refine ⟨b, off, ?_, h2, h3⟩
  refine Classical.byContradiction fun hn => ?_
  simp [World.cell?, Array.getElem?_eq_none (Nat.le_of_not_lt hn)] at h3

theorem cell_other_block {w : World} {b b' off off' : Nat} (v : Value) (h : b' ≠ b) : (w.setCell ⟨b, off, none⟩ v).cell? ⟨b', off', none⟩ = w.cell? ⟨b', off', none⟩ := by
  simp only [World.cell?]
  rw [heap_setCell_other _ _ _ _ h]

/-! ### The copies -/

def CopyPost (t : TypeId) (n : Nat) (f : Nat → Value) (w : World) (e : Ending) (w' : World) : Prop :=
  ∃ a', e = .returned (.slice a' n n) ∧ (a' = none → n = 0) ∧ VRow (fun b => w.heap.size ≤ b ∧ b < w'.heap.size) w' a' n f ∧ Below w.heap.size w w' ∧ (0 < n → a' = some ⟨w.heap.size, 0, none⟩ ∧ w'.rowIs w.heap.size t n f)

set_option maxHeartbeats 400000 in
theorem cloneS (a : Option Addr) (n c B : Nat) (z : Nat → ByteArray) (w : World) (hlen : n ≤ 300000) (hB : B ≤ w.heap.size) (hr : VRow (· < B) w a n (sv z)) (hnil : a = none → n = 0) :
    Calls Try.prog 8 #[.slice a n c] w (CopyPost 9 n (sv z) w) := by
  have heq := fun w a l c => Lib.run_eql_slice_nil (P := Try.prog) w 22 9 a l c 0 0 Try.underlying22
  cases a with
  | none =>
    have hz := hnil rfl
    subst hz
    go_enter Try.func8, Try.ntmps8
    go_wp2
    go_ret
    exact ⟨none, rfl, fun _ => rfl, fun i hi => absurd hi (by omega), Below.refl _ _, fun h => absurd h (by omega)⟩
  | some x =>
    have hmk := run_make_row' (P := Try.prog) 22 9 _ 16 Try.underlying22 Try.info9 rfl .i64 .i64 n (by omega) (by omega)
    go_enter Try.func8, Try.ntmps8
    go_wp2
    go_loopw [4] (fun i wr => ∃ k : Nat, k ≤ n ∧ i = .int .i64 k ∧ wr.rowIs w.heap.size 9 n (fun j => .string (if j < k then z j else ByteArray.empty)) ∧ Below w.heap.size w wr) (fun i _ => n - (intOf i).toNat)
    case atStart => exact ⟨0, Nat.zero_le _, rfl, (World.rowIs_made _ _ _ _).congr (fun i _ => by simp), (Below.refl _ _).alloc (Nat.le_refl _) _⟩
    case round =>
      obtain ⟨k, hk, rfl, hrow, hbel⟩ := hrel
      by_cases hlt : k < n
      · obtain ⟨b, off, hb, hx, hc⟩ := hr k hlt
        simp only [Option.some.injEq] at hx
        subst hx
        have hc1 : wr.cell? ⟨b, off + k, none⟩ = some (.string (z k)) := by rw [hbel.cell (show (⟨b, off + k, none⟩ : Addr).block < w.heap.size from Nat.lt_of_lt_of_le hb hB)]; exact hc
        have hc2 := hrow.cell hlt
        have hf2 := hrow.frozen k
        clear hc
        go_wp2
        go_roundw
        case rel =>
          refine ⟨k + 1, by omega, by go_num, (hrow.set k _).congr (fun i hi => ?_), hbel.setCell (Nat.le_refl _) _⟩
          by_cases e : i = k
          · subst e; simp
          · have : i < k + 1 ↔ i < k := by omega
            simp [e, this]
        case measure => simp [intOf]; omega
      · go_wp2
        go_ret
        have hk' : k = n := by omega
        subst hk'
        have hrow' : wr.rowIs w.heap.size 9 k (sv z) := hrow.congr (fun i hi => by simp [sv, hi])
        exact ⟨some ⟨w.heap.size, 0, none⟩, rfl, (fun e => by cases e), VRow.of_rowIs hrow' ⟨Nat.le_refl _, hrow.lt⟩, hbel, fun _ => ⟨rfl, hrow'⟩⟩

set_option maxHeartbeats 400000 in
theorem cloneB (a : Option Addr) (n c B : Nat) (z : Nat → Bool) (w : World) (hlen : n ≤ 300000) (hB : B ≤ w.heap.size) (hr : VRow (· < B) w a n (bv z)) (hnil : a = none → n = 0) :
    Calls Try.prog 9 #[.slice a n c] w (CopyPost 4 n (bv z) w) := by
  have heq := fun w a l c => Lib.run_eql_slice_nil (P := Try.prog) w 23 4 a l c 0 0 Try.underlying23
  cases a with
  | none =>
    have hz := hnil rfl
    subst hz
    go_enter Try.func9, Try.ntmps9
    go_wp2
    go_ret
    exact ⟨none, rfl, fun _ => rfl, fun i hi => absurd hi (by omega), Below.refl _ _, fun h => absurd h (by omega)⟩
  | some x =>
    have hmk := run_make_row' (P := Try.prog) 23 4 _ 1 Try.underlying23 Try.info4 rfl .i64 .i64 n (by omega) (by omega)
    go_enter Try.func9, Try.ntmps9
    go_wp2
    go_loopw [4] (fun i wr => ∃ k : Nat, k ≤ n ∧ i = .int .i64 k ∧ wr.rowIs w.heap.size 4 n (fun j => .bool (if j < k then z j else false)) ∧ Below w.heap.size w wr) (fun i _ => n - (intOf i).toNat)
    case atStart => exact ⟨0, Nat.zero_le _, rfl, (World.rowIs_made _ _ _ _).congr (fun i _ => by simp), (Below.refl _ _).alloc (Nat.le_refl _) _⟩
    case round =>
      obtain ⟨k, hk, rfl, hrow, hbel⟩ := hrel
      by_cases hlt : k < n
      · obtain ⟨b, off, hb, hx, hc⟩ := hr k hlt
        simp only [Option.some.injEq] at hx
        subst hx
        have hc1 : wr.cell? ⟨b, off + k, none⟩ = some (.bool (z k)) := by rw [hbel.cell (show (⟨b, off + k, none⟩ : Addr).block < w.heap.size from Nat.lt_of_lt_of_le hb hB)]; exact hc
        have hc2 := hrow.cell hlt
        have hf2 := hrow.frozen k
        clear hc
        go_wp2
        go_roundw
        case rel =>
          refine ⟨k + 1, by omega, by go_num, (hrow.set k _).congr (fun i hi => ?_), hbel.setCell (Nat.le_refl _) _⟩
          by_cases e : i = k
          · subst e; simp
          · have : i < k + 1 ↔ i < k := by omega
            simp [e, this]
        case measure => simp [intOf]; omega
      · go_wp2
        go_ret
        have hk' : k = n := by omega
        subst hk'
        have hrow' : wr.rowIs w.heap.size 4 k (bv z) := hrow.congr (fun i hi => by simp [bv, hi])
        exact ⟨some ⟨w.heap.size, 0, none⟩, rfl, (fun e => by cases e), VRow.of_rowIs hrow' ⟨Nat.le_refl _, hrow.lt⟩, hbel, fun _ => ⟨rfl, hrow'⟩⟩

set_option maxHeartbeats 400000 in
theorem cloneI (a : Option Addr) (n c B : Nat) (z : Nat → Int) (w : World) (hlen : n ≤ 300000) (hB : B ≤ w.heap.size) (hr : VRow (· < B) w a n (iv z)) (hnil : a = none → n = 0) :
    Calls Try.prog 10 #[.slice a n c] w (CopyPost 21 n (iv z) w) := by
  have heq := fun w a l c => Lib.run_eql_slice_nil (P := Try.prog) w 24 21 a l c 0 0 Try.underlying24
  cases a with
  | none =>
    have hz := hnil rfl
    subst hz
    go_enter Try.func10, Try.ntmps10
    go_wp2
    go_ret
    exact ⟨none, rfl, fun _ => rfl, fun i hi => absurd hi (by omega), Below.refl _ _, fun h => absurd h (by omega)⟩
  | some x =>
    have hmk := run_make_row' (P := Try.prog) 24 21 _ 4 Try.underlying24 Try.info21 rfl .i64 .i64 n (by omega) (by omega)
    go_enter Try.func10, Try.ntmps10
    go_wp2
    go_loopw [4] (fun i wr => ∃ k : Nat, k ≤ n ∧ i = .int .i64 k ∧ wr.rowIs w.heap.size 21 n (fun j => .int .i32 (if j < k then z j else 0)) ∧ Below w.heap.size w wr) (fun i _ => n - (intOf i).toNat)
    case atStart => exact ⟨0, Nat.zero_le _, rfl, (World.rowIs_made _ _ _ _).congr (fun i _ => by simp), (Below.refl _ _).alloc (Nat.le_refl _) _⟩
    case round =>
      obtain ⟨k, hk, rfl, hrow, hbel⟩ := hrel
      by_cases hlt : k < n
      · obtain ⟨b, off, hb, hx, hc⟩ := hr k hlt
        simp only [Option.some.injEq] at hx
        subst hx
        have hc1 : wr.cell? ⟨b, off + k, none⟩ = some (.int .i32 (z k)) := by rw [hbel.cell (show (⟨b, off + k, none⟩ : Addr).block < w.heap.size from Nat.lt_of_lt_of_le hb hB)]; exact hc
        have hc2 := hrow.cell hlt
        have hf2 := hrow.frozen k
        clear hc
        go_wp2
        go_roundw
        case rel =>
          refine ⟨k + 1, by omega, by go_num, (hrow.set k _).congr (fun i hi => ?_), hbel.setCell (Nat.le_refl _) _⟩
          by_cases e : i = k
          · subst e; simp
          · have : i < k + 1 ↔ i < k := by omega
            simp [e, this]
        case measure => simp [intOf]; omega
      · go_wp2
        go_ret
        have hk' : k = n := by omega
        subst hk'
        have hrow' : wr.rowIs w.heap.size 21 k (iv z) := hrow.congr (fun i hi => by simp [iv, hi])
        exact ⟨some ⟨w.heap.size, 0, none⟩, rfl, (fun e => by cases e), VRow.of_rowIs hrow' ⟨Nat.le_refl _, hrow.lt⟩, hbel, fun _ => ⟨rfl, hrow'⟩⟩

end Go.Proofs.Qxb6604061a
