import Derived.Test.Qxb6600608aProg
import Derived.Test.Qxb6600608aMaps
import Derived.WalkSpells
import Derived.WalkLawsBesides
import Derived.Deep.OwnRows
import Derived.BigQuiet
namespace Go.Proofs.Qxb6600608a
open Go.RowKit Go.SMaps

theorem Try.info9 : (Try.prog.info? 9).map (fun i => (i.zero, i.size, i.bytes)) = some (some (.string ByteArray.empty), 1, 16) := by kernel_rfl

/-- A row of n strings that is read: the address leads to them. -/
def SRow (w : World) (a : Option Addr) (n : Nat) (z : Nat → ByteArray) : Prop :=
  ∀ i, i < n → ∃ b off, b < w.heap.size ∧ a = some ⟨b, off, none⟩ ∧ w.cell? ⟨b, off + i, none⟩ = some (.string (z i))

theorem SRow.below {w w' : World} {a : Option Addr} {n : Nat} {z : Nat → ByteArray} {B : Nat} (h : SRow w a n z) (hb : Below B w w') (hB : w.heap.size ≤ B) : SRow w' a n z := by
  intro i hi
  obtain ⟨b, off, hlt, ha, hc⟩ := h i hi
  exact ⟨b, off, Nat.lt_of_lt_of_le hlt hb.size, ha, by rw [hb.cell (p := ⟨b, off + i, none⟩) (Nat.lt_of_lt_of_le hlt hB)]; exact hc⟩

theorem SRow.of_rowIs {w : World} {b n : Nat} {t : TypeId} {f : Nat → Value} {z : Nat → ByteArray} (h : w.rowIs b t n f) (hf : ∀ i, i < n → f i = .string (z i)) : SRow w (some ⟨b, 0, none⟩) n z := by
  intro i hi
  refine ⟨b, 0, h.lt, rfl, ?_⟩
  rw [Nat.zero_add, h.cell hi, hf i hi]

def IntPost (w : World) (e : Ending) (w' : World) : Prop := ∃ x : Int, e = .returned (.int .i64 x) ∧ w' = w
def BoolPost (w : World) (e : Ending) (w' : World) : Prop := ∃ x : Bool, e = .returned (.bool x) ∧ w' = w

set_option maxHeartbeats 400000 in
theorem sbytes (a : Option Addr) (n c : Nat) (z : Nat → ByteArray) (w : World) (hn : n ≤ maxLen) (hr : SRow w a n z) :
    Calls Try.prog 10 #[.slice a n c] w (IntPost w) := by
  unfold maxLen at hn
  go_enter Try.func10, Try.ntmps10
  go_wp2
  go_loop [3, 4] (fun t i => ∃ (x : Int) (k : Nat), k ≤ n ∧ t = .int .i64 x ∧ i = .int .i64 k) (fun _ i => n - (intOf i).toNat)
  case atStart => exact ⟨_, 0, Nat.zero_le _, rfl, rfl⟩
  case round =>
    obtain ⟨x, k, hk, rfl, rfl⟩ := hrel
    by_cases hlt : k < n
    · obtain ⟨b, off, hb, rfl, hc⟩ := hr k hlt
      go_wp2
      go_round
      case rel => exact ⟨_, k + 1, by omega, rfl, by go_num⟩
      case measure => simp [intOf]; omega
    · go_wp2
      go_ret
      exact ⟨x, rfl, rfl⟩

set_option maxHeartbeats 400000 in
theorem zbytes9 (a : Option Addr) (n c : Nat) (z : Nat → ByteArray) (w : World) (hn : n ≤ maxLen) (hr : SRow w a n z) :
    Calls Try.prog 9 #[.slice a n c] w (BoolPost w) := by
  unfold maxLen at hn
  go_enter Try.func9, Try.ntmps9
  go_wp2
  · go_ret
    exact ⟨_, rfl, rfl⟩
  · go_loop [3, 4] (fun t i => ∃ (x : Int) (k : Nat), k ≤ n ∧ t = .int .i64 x ∧ i = .int .i64 k) (fun _ i => n - (intOf i).toNat)
    case atStart => exact ⟨_, 0, Nat.zero_le _, rfl, rfl⟩
    case round =>
      obtain ⟨x, k, hk, rfl, rfl⟩ := hrel
      by_cases hlt : k < n
      · obtain ⟨b, off, hb, rfl, hc⟩ := hr k hlt
        go_wp2
        · go_ret
          exact ⟨_, rfl, rfl⟩
        · go_ret
          exact ⟨_, rfl, rfl⟩
        · go_round
          case rel => exact ⟨_, k + 1, by omega, rfl, by go_num⟩
          case measure => simp [intOf]; omega
      · go_wp2
        go_ret
        exact ⟨_, rfl, rfl⟩

set_option maxHeartbeats 400000 in
theorem cloneS (a : Option Addr) (n c : Nat) (z : Nat → ByteArray) (w : World) (hlen : n ≤ 100000) (hr : SRow w a n z) (hnil : a = none → n = 0) :
    Calls Try.prog 11 #[.slice a n c] w fun e w' => ∃ a', e = .returned (.slice a' n n) ∧ (a' = none → n = 0) ∧ SRow w' a' n z ∧ Below w.heap.size w w' := by
  have heq := fun w a l c => Lib.run_eql_slice_nil (P := Try.prog) w 22 9 a l c 0 0 Try.underlying22
  cases a with
  | none =>
    have hz := hnil rfl
    subst hz
    go_enter Try.func11, Try.ntmps11
    go_wp2
    go_ret
    exact ⟨none, rfl, fun i hi => absurd hi (by omega), Below.refl _ _⟩
  | some x =>
    have hmk := run_make_row' (P := Try.prog) 22 9 _ 16 Try.underlying22 Try.info9 rfl .i64 .i64 n (by omega) (by omega)
    go_enter Try.func11, Try.ntmps11
    go_wp2
    go_loopw [4] (fun i wr => ∃ k : Nat, k ≤ n ∧ i = .int .i64 k ∧ wr.rowIs w.heap.size 9 n (fun j => .string (if j < k then z j else ByteArray.empty)) ∧ Below w.heap.size w wr) (fun i _ => n - (intOf i).toNat)
    case atStart => exact ⟨0, Nat.zero_le _, rfl, (World.rowIs_made _ _ _ _).congr (fun i _ => by simp), (Below.refl _ _).alloc (Nat.le_refl _) _⟩
    case round =>
      obtain ⟨k, hk, rfl, hrow, hbel⟩ := hrel
      by_cases hlt : k < n
      · obtain ⟨b, off, hb, hx, hc⟩ := hr k hlt
        simp only [Option.some.injEq] at hx
        subst hx
        have hc1 : wr.cell? ⟨b, off + k, none⟩ = some (.string (z k)) := by rw [hbel.cell (by exact hb)]; exact hc
        have hc2 := hrow.cell hlt
        have hf2 := hrow.frozen k
        go_wp2
        go_roundw
        case rel =>
          refine ⟨k + 1, by omega, by go_num, (hrow.set k _).congr (fun i hi => ?_), hbel.setCell (Nat.le_refl _) _⟩
          by_cases e : i = k
          · subst e; simp
          · have : i < k + 1 ↔ i < k := by omega
            simp [e, this]
        case measure => simp [intOf]; omega
      · go_wp2
        go_ret
        have hk' : k = n := by omega
        subst hk'
        exact ⟨some ⟨w.heap.size, 0, none⟩, rfl, by simp, SRow.of_rowIs hrow (fun i hi => by simp [hi]), hbel⟩

/-- The first index whose string stood before. -/
structure FR (n : Nat) (z : Nat → ByteArray) (j : Nat) : Prop where
  le : j ≤ n
  apart : ∀ k, k < j → ∀ m, m < k → z m ≠ z k
  hit : j < n → ∃ m, m < j ∧ z m = z j

theorem toList_ne {a b : ByteArray} (h : a ≠ b) : (a.toList == b.toList) = false := by
  rw [ByteArray.toList_eq, ByteArray.toList_eq]
  simp only [beq_eq_false_iff_ne, ne_eq]
  intro e
  apply h
  obtain ⟨x⟩ := a
  obtain ⟨y⟩ := b
  have : x = y := Array.toList_inj.1 e
  rw [this]

def FRPost (n : Nat) (z : Nat → ByteArray) (w : World) (e : Ending) (w' : World) : Prop := ∃ j q : Nat, e = .returned (.int .i64 j) ∧ w' = w.drewN q ∧ FR n z j

set_option maxHeartbeats 1000000 in
theorem firstR (a : Option Addr) (n c : Nat) (z : Nat → ByteArray) (w : World) (hlen : n ≤ 100000) (hr : SRow w a n z) :
    Calls Try.prog 12 #[.slice a n c] w (FRPost n z w) := by
  go_enter Try.func12, Try.ntmps12
  go_wp2
  go_loopw [3] (fun i wr => ∃ k q : Nat, k ≤ n ∧ i = .int .i64 k ∧ wr = w.drewN q ∧ Hid (∀ x, x < k → ∀ m, m < x → z m ≠ z x)) (fun i _ => n - (intOf i).toNat)
  case atStart => exact ⟨0, 0, Nat.zero_le _, rfl, rfl, fun x hx => absurd hx (by omega)⟩
  case round =>
    obtain ⟨k, q, hk, rfl, rfl, hap⟩ := hrel
    by_cases hlt : k < n
    · go_wp2
      go_loopw [4] (fun i wr => ∃ m q : Nat, m ≤ k ∧ i = .int .i64 m ∧ wr = w.drewN q ∧ Hid (∀ x, x < m → z x ≠ z k)) (fun i _ => k - (intOf i).toNat)
      case atStart => exact ⟨0, q, Nat.zero_le _, rfl, rfl, fun x hx => absurd hx (by omega)⟩
      case round =>
        obtain ⟨m, q, hm, rfl, rfl, hno⟩ := hrel
        by_cases hmk : m < k
        · obtain ⟨b, off, hb, rfl, hc⟩ := hr m (by omega)
          obtain ⟨b', off', hb', e', hc'⟩ := hr k (by omega)
          simp only [Option.some.injEq, Addr.mk.injEq] at e'
          obtain ⟨rfl, rfl, _⟩ := e'
          by_cases he : z m = z k
          · go_wp2
            go_quiet (fail)
            go_wp2
            go_ret
            exact ⟨k, _, rfl, World.drewN_drewN _ _ _, hk, fun x hx y hy => hap.out x hx y hy, fun _ => ⟨m, hmk, he⟩⟩
          · have he' := toList_ne he
            go_wp2
            go_quiet (fail)
            go_wp2
            go_roundw
            case rel => exact ⟨m + 1, _, by omega, by go_num, rfl, fun x hx => by
              by_cases e : x = m
              · subst e; exact he
              · exact hno.out x (by omega)⟩
            case measure => simp [intOf]; omega
        · go_wp2
          go_roundw
          case rel => exact ⟨k + 1, q, by omega, by go_num, rfl, fun x hx y hy => by
            by_cases e : x = k
            · subst e; exact hno.out y (by omega)
            · exact hap.out x (by omega) y hy⟩
          case measure => simp [intOf]; omega
    · go_wp2
      go_ret
      have hkn : k = n := by omega
      subst hkn
      exact ⟨k, q, rfl, rfl, Nat.le_refl _, hap.out, fun h => absurd h (by omega)⟩

set_option maxHeartbeats 1000000 in
theorem zbytes16 (a0 a1 : Option Addr) (n0 c0 n1 c1 : Nat) (z0 z1 : Nat → ByteArray) (st : Int) (w : World) (hn0 : n0 ≤ maxLen) (hn1 : n1 ≤ maxLen) (hr0 : SRow w a0 n0 z0) (hr1 : SRow w a1 n1 z1) :
    Calls Try.prog 16 #[.slice a0 n0 c0, .slice a1 n1 c1, .int .i64 st] w (BoolPost w) := by
  unfold maxLen at hn0 hn1
  go_enter Try.func16, Try.ntmps16
  go_wp2
  · go_ret
    exact ⟨_, rfl, rfl⟩
  · go_loop [7, 8] (fun t i => ∃ (x : Int) (k : Nat), k ≤ n0 ∧ t = .int .i64 x ∧ i = .int .i64 k) (fun _ i => n0 - (intOf i).toNat)
    case atStart => exact ⟨_, 0, Nat.zero_le _, rfl, rfl⟩
    case round =>
      obtain ⟨x, k, hk, rfl, rfl⟩ := hrel
      by_cases hlt : k < n0
      · obtain ⟨b, off, hb, rfl, hc⟩ := hr0 k hlt
        go_wp2
        · go_ret
          exact ⟨_, rfl, rfl⟩
        · go_ret
          exact ⟨_, rfl, rfl⟩
        · go_round
          case rel => exact ⟨_, k + 1, by omega, rfl, by go_num⟩
          case measure => simp [intOf]; omega
      · go_wp2
        · go_ret
          exact ⟨_, rfl, rfl⟩
        · go_ret
          exact ⟨_, rfl, rfl⟩
        · go_loop [7, 9] (fun t i => ∃ (x : Int) (k : Nat), k ≤ n1 ∧ t = .int .i64 x ∧ i = .int .i64 k) (fun _ i => n1 - (intOf i).toNat)
          case atStart => exact ⟨_, 0, Nat.zero_le _, rfl, rfl⟩
          case round =>
            obtain ⟨x, k, hk, rfl, rfl⟩ := hrel
            by_cases hlt : k < n1
            · obtain ⟨b, off, hb, rfl, hc⟩ := hr1 k hlt
              go_wp2
              · go_ret
                exact ⟨_, rfl, rfl⟩
              · go_ret
                exact ⟨_, rfl, rfl⟩
              · go_round
                case rel => exact ⟨_, k + 1, by omega, rfl, by go_num⟩
                case measure => simp [intOf]; omega
            · go_wp2
              go_ret
              exact ⟨_, rfl, rfl⟩

open Classical in
/-- Is t among the first n? -/
theorem inPre (a : Option Addr) (n c l : Nat) (z : Nat → ByteArray) (t : ByteArray) (w : World) (hlen : n ≤ 100000) (hl : l ≤ n) (hr : SRow w a n z) :
    Calls Try.prog 18 #[.slice a n c, .int .i64 l, .string t] w fun e w' => e = .returned (.bool (decide (∃ k, k < l ∧ z k = t))) ∧ w' = w := by
  obtain ⟨r, hrr⟩ : ∃ r, r = decide (∃ k, k < l ∧ z k = t) := ⟨_, rfl⟩
  rw [← hrr]
  have HR : Hid (r = decide (∃ k, k < l ∧ z k = t)) := hrr
  clear hrr
  go_enter Try.func18, Try.ntmps18
  go_wp2
  go_loop [7] (fun i => ∃ k : Nat, k ≤ l ∧ i = .int .i64 k ∧ Hid (∀ x, x < k → z x ≠ t)) (fun i => l - (intOf i).toNat)
  case atStart => exact ⟨0, Nat.zero_le _, rfl, fun x hx => absurd hx (by omega)⟩
  case round =>
    obtain ⟨k, hk, rfl, hno⟩ := hrel
    by_cases hlt : k < l
    · obtain ⟨b, off, hb, rfl, hc⟩ := hr k (by omega)
      by_cases he : z k = t
      · subst he
        go_wp2
        go_ret
        refine ⟨?_, rfl⟩
        rw [HR.out, decide_eq_true ⟨k, hlt, rfl⟩]
        rfl
      · have he' := toList_ne he
        go_wp2
        go_round
        case rel => exact ⟨k + 1, by omega, by go_num, fun x hx => by
          by_cases e : x = k
          · subst e; exact he
          · exact hno.out x (by omega)⟩
        case measure => simp [intOf]; omega
    · go_wp2
      go_ret
      refine ⟨?_, rfl⟩
      rw [HR.out, decide_eq_false (fun ⟨x, hx, e⟩ => hno.out x (by omega) e)]
      rfl

end Go.Proofs.Qxb6600608a
