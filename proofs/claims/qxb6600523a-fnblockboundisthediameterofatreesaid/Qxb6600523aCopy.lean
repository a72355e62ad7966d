import Derived.Test.Qxb6600523aProg
import Derived.WalkKit
import Derived.WalkSpells
import Derived.WalkLawsBesides
import Derived.Deep.OwnRows
namespace Go.Proofs.Qxb6600523a
open Go.RowKit

theorem Try.info3 : (Try.prog.info? 3).map (fun i => (i.zero, i.size, i.bytes)) = some (some (.int .i64 0), 1, 8) := by kernel_rfl
theorem Try.info21 : (Try.prog.info? 21).map (fun i => (i.zero, i.size, i.bytes)) = some (some (.int .i32 0), 1, 4) := by kernel_rfl

/-- A row of n numbers that is read: the address leads to them. -/
def Row (k : IntKind) (w : World) (a : Option Addr) (n : Nat) (z : Nat → Int) : Prop :=
  ∀ i, i < n → ∃ b off, b < w.heap.size ∧ a = some ⟨b, off, none⟩ ∧ w.cell? ⟨b, off + i, none⟩ = some (.int k (z i))

theorem Row.below {k : IntKind} {w w' : World} {a : Option Addr} {n : Nat} {z : Nat → Int} {B : Nat} (h : Row k w a n z) (hb : Below B w w') (hB : w.heap.size ≤ B) : Row k w' a n z := by
  intro i hi
  obtain ⟨b, off, hlt, ha, hc⟩ := h i hi
  exact ⟨b, off, Nat.lt_of_lt_of_le hlt hb.size, ha, by rw [hb.cell (p := ⟨b, off + i, none⟩) (Nat.lt_of_lt_of_le hlt hB)]; exact hc⟩

theorem Row.of_rowIs {k : IntKind} {w : World} {b n : Nat} {t : TypeId} {f : Nat → Value} {z : Nat → Int} (h : w.rowIs b t n f) (hf : ∀ i, i < n → f i = .int k (z i)) : Row k w (some ⟨b, 0, none⟩) n z := by
  intro i hi
  refine ⟨b, 0, h.lt, rfl, ?_⟩
  rw [Nat.zero_add, h.cell hi, hf i hi]

set_option maxHeartbeats 400000 in
theorem bytes14 (a0 a1 : Option Addr) (l0 c0 l1 c1 : Nat) (h0 : l0 ≤ maxLen) (h1 : l1 ≤ maxLen) (w : World) :
    Calls Try.prog 14 #[.slice a0 l0 c0, .slice a1 l1 c1] w fun e w' => ∃ r : Bool, e = .returned (.bool r) ∧ w' = w := by
  unfold maxLen at h0 h1
  go_enter Try.func14, Try.ntmps14
  go_wp2
  all_goals (go_ret; exact ⟨_, rfl, rfl⟩)

set_option maxHeartbeats 400000 in
theorem bytes19 (a0 a1 : Option Addr) (l0 c0 l1 c1 : Nat) (h0 : l0 ≤ maxLen) (h1 : l1 ≤ maxLen) (w : World) :
    Calls Try.prog 19 #[.slice a0 l0 c0, .slice a1 l1 c1] w fun e w' => ∃ r : Bool, e = .returned (.bool r) ∧ w' = w := by
  unfold maxLen at h0 h1
  go_enter Try.func19, Try.ntmps19
  go_wp2
  all_goals (go_ret; exact ⟨_, rfl, rfl⟩)

set_option maxHeartbeats 400000 in
theorem copyI (a : Option Addr) (n c : Nat) (z : Nat → Int) (w : World) (hlen : n ≤ 100000) (hr : Row .i64 w a n z) (hnil : a = none → n = 0) :
    Calls Try.prog 8 #[.slice a n c] w fun e w' => ∃ a', e = .returned (.slice a' n n) ∧ (a' = none → n = 0) ∧ Row .i64 w' a' n z ∧ Below w.heap.size w w' := by
  have heq := fun w a l c => Lib.run_eql_slice_nil (P := Try.prog) w 22 3 a l c 0 0 Try.underlying22
  cases a with
  | none =>
    have hz := hnil rfl
    subst hz
    go_enter Try.func8, Try.ntmps8
    go_wp2
    go_ret
    exact ⟨none, rfl, fun i hi => absurd hi (by omega), Below.refl _ _⟩
  | some x =>
    have hmk := run_make_row' (P := Try.prog) 22 3 _ 8 Try.underlying22 Try.info3 rfl .i64 .i64 n (by omega) (by omega)
    go_enter Try.func8, Try.ntmps8
    go_wp2
    go_loopw [4] (fun i wr => ∃ k : Nat, k ≤ n ∧ i = .int .i64 k ∧ wr.rowIs w.heap.size 3 n (fun j => .int .i64 (if j < k then z j else 0)) ∧ Below w.heap.size w wr) (fun i _ => n - (intOf i).toNat)
    case atStart => exact ⟨0, Nat.zero_le _, rfl, (World.rowIs_made _ _ _ _).congr (fun i _ => by simp), (Below.refl _ _).alloc (Nat.le_refl _) _⟩
    case round =>
      obtain ⟨k, hk, rfl, hrow, hbel⟩ := hrel
      by_cases hlt : k < n
      · obtain ⟨b, off, hb, hx, hc⟩ := hr k hlt
        simp only [Option.some.injEq] at hx
        subst hx
        have hc1 : wr.cell? ⟨b, off + k, none⟩ = some (.int .i64 (z k)) := by rw [hbel.cell (by exact hb)]; exact hc
        have hc2 := hrow.cell hlt
        have hf2 := hrow.frozen k
        go_wp2
        go_roundw
        case rel =>
          refine ⟨k + 1, by omega, by go_num, (hrow.set k _).congr (fun i hi => ?_), hbel.setCell (Nat.le_refl _) _⟩
          by_cases e : i = k
          · subst e; simp
          · have : i < k + 1 ↔ i < k := by omega
            simp [e, this]
        case measure => simp [intOf]; omega
      · go_wp2
        go_ret
        have hk' : k = n := by omega
        subst hk'
        exact ⟨some ⟨w.heap.size, 0, none⟩, rfl, by simp, Row.of_rowIs hrow (fun i hi => by simp [hi]), hbel⟩

set_option maxHeartbeats 400000 in
theorem copyI32 (a : Option Addr) (n c : Nat) (z : Nat → Int) (w : World) (hlen : n ≤ 100000) (hr : Row .i32 w a n z) (hnil : a = none → n = 0) :
    Calls Try.prog 15 #[.slice a n c] w fun e w' => ∃ a', e = .returned (.slice a' n n) ∧ (a' = none → n = 0) ∧ Row .i32 w' a' n z ∧ Below w.heap.size w w' := by
  have heq := fun w a l c => Lib.run_eql_slice_nil (P := Try.prog) w 33 21 a l c 0 0 Try.underlying33
  cases a with
  | none =>
    have hz := hnil rfl
    subst hz
    go_enter Try.func15, Try.ntmps15
    go_wp2
    go_ret
    exact ⟨none, rfl, fun i hi => absurd hi (by omega), Below.refl _ _⟩
  | some x =>
    have hmk := run_make_row' (P := Try.prog) 33 21 _ 4 Try.underlying33 Try.info21 rfl .i64 .i64 n (by omega) (by omega)
    go_enter Try.func15, Try.ntmps15
    go_wp2
    go_loopw [4] (fun i wr => ∃ k : Nat, k ≤ n ∧ i = .int .i64 k ∧ wr.rowIs w.heap.size 21 n (fun j => .int .i32 (if j < k then z j else 0)) ∧ Below w.heap.size w wr) (fun i _ => n - (intOf i).toNat)
    case atStart => exact ⟨0, Nat.zero_le _, rfl, (World.rowIs_made _ _ _ _).congr (fun i _ => by simp), (Below.refl _ _).alloc (Nat.le_refl _) _⟩
    case round =>
      obtain ⟨k, hk, rfl, hrow, hbel⟩ := hrel
      by_cases hlt : k < n
      · obtain ⟨b, off, hb, hx, hc⟩ := hr k hlt
        simp only [Option.some.injEq] at hx
        subst hx
        have hc1 : wr.cell? ⟨b, off + k, none⟩ = some (.int .i32 (z k)) := by rw [hbel.cell (by exact hb)]; exact hc
        have hc2 := hrow.cell hlt
        have hf2 := hrow.frozen k
        go_wp2
        go_roundw
        case rel =>
          refine ⟨k + 1, by omega, by go_num, (hrow.set k _).congr (fun i hi => ?_), hbel.setCell (Nat.le_refl _) _⟩
          by_cases e : i = k
          · subst e; simp
          · have : i < k + 1 ↔ i < k := by omega
            simp [e, this]
        case measure => simp [intOf]; omega
      · go_wp2
        go_ret
        have hk' : k = n := by omega
        subst hk'
        exact ⟨some ⟨w.heap.size, 0, none⟩, rfl, by simp, Row.of_rowIs hrow (fun i hi => by simp [hi]), hbel⟩

end Go.Proofs.Qxb6600523a
