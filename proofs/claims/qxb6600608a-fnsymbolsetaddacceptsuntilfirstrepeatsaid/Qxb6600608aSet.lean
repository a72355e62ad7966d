import Derived.Test.Qxb6600608aStrs
namespace Go.Proofs.Qxb6600608a
open Go.RowKit Go.SMaps

/-- The cells of an asset that bears a symbol and nothing else. -/
def acells (s : ByteArray) : Array Value := #[.string s, .int .i64 0, .int .i64 0, .int .u64 0, .pointer none, .int .i64 0, .int .i64 0, .int .u64 0, .pointer none, .int .i64 0, .int .i64 0, .int .u64 0, .pointer none, .int .i64 0, .pointer none, .pointer none, .pointer none, .pointer none, .pointer none, .pointer none, .pointer none]

theorem Try.info65 : (Try.prog.info? 65).map (fun i => (i.zero, i.size, i.bytes)) = some (some (.agg (acells ByteArray.empty)), 21, 176) := by kernel_rfl
theorem Try.info68 : (Try.prog.info? 68).map (fun i => (i.zero, i.size, i.bytes)) = some (some (.agg #[.slice none 0 0, .int .i64 0, .map none]), 3, 40) := by kernel_rfl
theorem zero4 (w : World) : (zeroValue 4).run Try.prog w = .ok (.bool false) w := by kernel_rfl

/-- Cell x of a row of assets, the first k of which bear their symbols. -/
def acf (z : Nat → ByteArray) (k x : Nat) : Value := if x % 21 = 0 then .string (if x / 21 < k then z (x / 21) else ByteArray.empty) else (acells ByteArray.empty).getD (x % 21) undef

theorem acf_zero (z : Nat → ByteArray) (x : Nat) : (acells ByteArray.empty).getD (x % 21) undef = acf z 0 x := by
  unfold acf
  by_cases h : x % 21 = 0
  · rw [if_pos h, h]; simp [acells]
  · rw [if_neg h]

theorem acf_step (z : Nat → ByteArray) (k x : Nat) : (if x = k * 21 then Value.string (z k) else acf z k x) = acf z (k + 1) x := by
  unfold acf
  by_cases e : x = k * 21
  · subst e
    have h1 : k * 21 % 21 = 0 := by omega
    have h2 : k * 21 / 21 = k := by omega
    rw [if_pos rfl, if_pos h1, h2, if_pos (by omega)]
  · rw [if_neg e]
    by_cases h : x % 21 = 0
    · have h3 : x / 21 < k + 1 ↔ x / 21 < k := by omega
      simp [h, h3]
    · rw [if_neg h, if_neg h]

theorem made_assets (w : World) (n : Nat) : (w.alloc (.cells (madeCells (acells ByteArray.empty) (n * 21)) 65)).rowIs w.heap.size 65 (n * 21) (fun x => (acells ByteArray.empty).getD (x % 21) undef) := by
  refine ⟨_, heap_alloc_new _ _, size_madeCells _ _, fun i hi => ?_⟩
  have hs : (acells ByteArray.empty).size = 21 := rfl
  have hlt : i % 21 < (acells ByteArray.empty).size := by rw [hs]; omega
  simp [madeCells, hi, hs, Array.getD]
  rw [dif_pos (by omega), getElem!_pos (acells ByteArray.empty) (i % 21) hlt]

theorem make_assets (n : Nat) (hn : n ≤ 100000) (w : World) :
    (Instr.makeSlice 54 (.int .i64 (n : Int)) (.int .i64 (n : Int))).run Try.prog w = .ok (.slice (some ⟨w.heap.size, 0, none⟩) n n) (w.alloc (.cells (madeCells (acells ByteArray.empty) (n * 21)) 65)) := by
  obtain ⟨i, hi, hz0, hz1, hz2⟩ := info_parts Try.info65
  have hr := run_make (P := Try.prog) w 54 65 i _ Try.underlying54 hi hz0 .i64 .i64 n n (by omega) (Int.le_refl _) (by rw [hz2]; omega) (by omega)
  simp only [Int.toNat_natCast, hz1] at hr
  exact hr

/-- The set: its struct, its assets, its index. -/
structure SetIs (w : World) (b bA n : Nat) (z : Nat → ByteArray) (l : Nat) (mp : Value) : Prop where
  blk : w.heap[b]? = some (.cells #[.slice (some ⟨bA, 0, none⟩) n n, .int .i64 (l : Int), mp] 68 (0, 0))
  assets : w.rowIs bA 65 (n * 21) (acf z n)
  le : l ≤ n

def NewPost (n : Nat) (z : Nat → ByteArray) (w : World) (e : Ending) (w' : World) : Prop :=
  ∃ b bA, e = .returned (.pointer (some ⟨b, 0, none⟩)) ∧ SetIs w' b bA n z 0 (.map none) ∧ Below w.heap.size w w' ∧ w.heap.size ≤ b ∧ w.heap.size ≤ bA

set_option maxHeartbeats 1000000 in
theorem newSet (a : Option Addr) (n c : Nat) (z : Nat → ByteArray) (w : World) (hlen : n ≤ 100000) (hr : SRow w a n z) :
    Calls Try.prog 13 #[.slice a n c] w (NewPost n z w) := by
  have hmk := make_assets n hlen
  go_enter Try.func13, Try.ntmps13
  go_wp2
  go_loopw [10] (fun i wr => ∃ k : Nat, k ≤ n ∧ i = .int .i64 k ∧ wr.rowIs w.heap.size 65 (n * 21) (acf z k) ∧ Below w.heap.size w wr ∧ wr.heap.size = w.heap.size + 1) (fun i _ => n - (intOf i).toNat)
  case atStart => exact ⟨0, Nat.zero_le _, rfl, (made_assets _ _).congr (fun x _ => acf_zero z x), (Below.refl _ _).alloc (Nat.le_refl _) _, by simp⟩
  case round =>
    obtain ⟨k, hk, rfl, hrow, hbel, hsz⟩ := hrel
    have HS : Hid (wr.heap.size = w.heap.size + 1) := hsz
    by_cases hlt : k < n
    · clear hsz
      obtain ⟨b, off, hb, rfl, hc⟩ := hr k hlt
      have hc1 : wr.cell? ⟨b, off + k, none⟩ = some (.string (z k)) := by rw [hbel.cell (by exact hb)]; exact hc
      have hc2 := hrow.cell (i := k * 21) (by omega)
      have hf2 := hrow.frozen (k * 21)
      have HR : Hid (wr.rowIs w.heap.size 65 (n * 21) (acf z k)) := hrow
      clear hrow
      go_wp2
      go_roundw
      case rel => exact ⟨k + 1, by omega, by go_num, (HR.out.set (k * 21) _).congr (fun x _ => acf_step z k x), hbel.setCell (Nat.le_refl _) _, by simpa [World.setCell] using HS.out⟩
      case measure => simp [intOf]; omega
    · have hk' : k = n := by omega
      subst hk'
      go_wp2
      go_ret
      refine ⟨_, w.heap.size, rfl, ⟨?_, hrow.alloc _, Nat.zero_le _⟩, hbel.alloc (by omega) _, by omega, Nat.le_refl _⟩
      rw [← hsz]
      exact heap_alloc_new _ _

/-- Is s among the first l? -/
def inB (z : Nat → ByteArray) : Nat → ByteArray → Bool
  | 0, _ => false
  | k + 1, s => inB z k s || decide (z k = s)

theorem inB_iff (z : Nat → ByteArray) (s : ByteArray) : ∀ l, inB z l s = true ↔ ∃ k, k < l ∧ z k = s
  | 0 => by simp [inB]
  | l + 1 => by
    simp only [inB, Bool.or_eq_true, decide_eq_true_eq, inB_iff z s l]
    constructor
    · rintro (⟨k, h1, h2⟩ | h)
      · exact ⟨k, by omega, h2⟩
      · exact ⟨l, by omega, h⟩
    · rintro ⟨k, h1, h2⟩
      by_cases e : k = l
      · subst e; exact .inr h2
      · exact .inl ⟨k, by omega, h2⟩

theorem inB_false {z : Nat → ByteArray} {s : ByteArray} {l : Nat} (h : ∀ k, k < l → z k ≠ s) : inB z l s = false := by
  cases e : inB z l s
  · rfl
  · obtain ⟨k, h1, h2⟩ := (inB_iff z s l).1 e
    exact absurd h2 (h k h1)

theorem inB_true {z : Nat → ByteArray} {s : ByteArray} {l k : Nat} (h : k < l) (e : z k = s) : inB z l s = true := (inB_iff z s l).2 ⟨k, h, e⟩

/-- What the index says of the first l. -/
def mIdx (z : Nat → ByteArray) (l : Nat) (s : ByteArray) : Option Value := if inB z l s then some (.bool true) else none

def Idx (w : World) (z : Nat → ByteArray) (l : Nat) (mp : Value) : Prop :=
  (l ≤ 8 ∧ mp = .map none) ∨ (8 < l ∧ ∃ bm cnt, mp = .map (some bm) ∧ SMap w bm (mIdx z l) cnt)

theorem SetIs.cells {w : World} {b bA n l : Nat} {z : Nat → ByteArray} {mp : Value} (h : SetIs w b bA n z l mp) :
    w.cell? ⟨b, 0, none⟩ = some (.slice (some ⟨bA, 0, none⟩) n n) ∧ w.cell? ⟨b, 1, none⟩ = some (.int .i64 (l : Int)) ∧ w.cell? ⟨b, 2, none⟩ = some mp ∧ (∀ i, w.frozen? ⟨b, i, none⟩ = false) ∧ ∀ i, i < n → w.cell? ⟨bA, i * 21, none⟩ = some (.string (z i)) := by
  refine ⟨?_, ?_, ?_, ?_, ?_⟩
  · simp [World.cell?, h.blk]
  · simp [World.cell?, h.blk]
  · simp [World.cell?, h.blk]
  · intro i; simp [World.frozen?, h.blk]
  · intro i hi
    rw [h.assets.cell (by omega)]
    unfold acf
    rw [if_pos (by omega), show i * 21 / 21 = i by omega, if_pos hi]

set_option maxHeartbeats 1000000 in
theorem has_any (b bA n l : Nat) (z : Nat → ByteArray) (mp : Value) (s : ByteArray) (w : World) (h : SetIs w b bA n z l mp) (hx : Idx w z l mp) :
    Calls Try.prog 35 #[.pointer (some ⟨b, 0, none⟩), .string s] w fun e w' => e = .returned (.bool (inB z l s)) ∧ w' = w := by
  obtain ⟨c0, c1, c2, _, cz⟩ := h.cells
  have hle := h.le
  have HZ : Hid (∀ i, i < n → w.cell? ⟨bA, i * 21, none⟩ = some (.string (z i))) := cz
  clear cz
  have hmn := fun w r => run_neq_map_nil (P := Try.prog) w 66 9 4 r Try.underlying66
  rcases hx with ⟨h8, rfl⟩ | ⟨h8, bm, cnt, rfl, hm⟩
  · go_enter Try.func35, Try.ntmps35
    go_wp2
    go_loop [21] (fun i => ∃ k : Nat, k ≤ l ∧ i = .int .i64 k ∧ Hid (∀ x, x < k → z x ≠ s)) (fun i => l - (intOf i).toNat)
    case atStart => exact ⟨0, Nat.zero_le _, rfl, fun x hx => absurd hx (by omega)⟩
    case round =>
      obtain ⟨k, hk, rfl, hno⟩ := hrel
      by_cases hlt : k < l
      · have ck := HZ.out k (by omega)
        by_cases he : z k = s
        · have HE : Hid (z k = s) := he
          rw [he] at ck
          clear he
          go_wp2
          go_ret
          refine ⟨?_, rfl⟩
          rw [inB_true hlt HE.out]
          rfl
        · have he' := toList_ne he
          go_wp2
          go_round
          case rel => exact ⟨k + 1, by omega, by go_num, fun x hx => by
            by_cases e : x = k
            · subst e; exact he
            · exact hno.out x (by omega)⟩
          case measure => simp [intOf]; omega
      · go_wp2
        go_ret
        refine ⟨?_, rfl⟩
        rw [inB_false (fun x hx => hno.out x (by omega))]
        rfl
  · have hl := hm.look (P := Try.prog) (t := 66) Try.underlying66 Try.underlying9 (zero4 w) s false
    have hv : (mIdx z l s).getD (.bool false) = .bool (inB z l s) := by
      unfold mIdx
      cases inB z l s <;> rfl
    rw [hv] at hl
    clear hv hm
    go_enter Try.func35, Try.ntmps35
    go_wp2
    go_ret
    exact ⟨rfl, rfl⟩

end Go.Proofs.Qxb6600608a
