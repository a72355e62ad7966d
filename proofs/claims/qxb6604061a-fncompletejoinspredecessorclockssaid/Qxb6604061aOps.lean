import Derived.Test.Qxb6604061aChk
import Derived.BigRegion
import Derived.Deep.MidRow
namespace Go.Proofs.Qxb6604061a
open Go.RowKit

/-- The cells of an operation of which only the name and the outcome are told. -/
def ocell (s : ByteArray) (o : Bool) : Array Value := #[.string ByteArray.empty, .string s, .string ByteArray.empty, .pointer none, .bool o, .int .i64 0, .int .i64 0]

theorem Try.info42 : (Try.prog.info? 42).map (fun i => (i.zero, i.size, i.bytes)) = some (some (.agg (ocell ByteArray.empty false)), 7, 80) := by kernel_rfl

/-- Cell x of the row, the first k laid. -/
def ocf (s : Nat → ByteArray) (o : Nat → Bool) (k x : Nat) : Value := (if x / 7 < k then ocell (s (x / 7)) (o (x / 7)) else ocell ByteArray.empty false).getD (x % 7) undef

theorem made_ops (w : World) (n : Nat) : (w.alloc (.cells (madeCells (ocell ByteArray.empty false) (n * 7)) 42)).rowIs w.heap.size 42 (n * 7) (fun x => (ocell ByteArray.empty false).getD (x % 7) undef) := by
  refine ⟨_, heap_alloc_new _ _, size_madeCells _ _, fun i hi => ?_⟩
  have hs : (ocell ByteArray.empty false).size = 7 := rfl
  have hlt : i % 7 < (ocell ByteArray.empty false).size := by rw [hs]; omega
  simp [madeCells, hi, hs, Array.getD]
  rw [dif_pos (by omega), getElem!_pos (ocell ByteArray.empty false) (i % 7) hlt]

theorem make_ops (n : Nat) (hn : n ≤ 300000) (w : World) :
    (Instr.makeSlice 32 (.int .i64 (n : Int)) (.int .i64 (n : Int))).run Try.prog w = .ok (.slice (some ⟨w.heap.size, 0, none⟩) n n) (w.alloc (.cells (madeCells (ocell ByteArray.empty false) (n * 7)) 42)) := by
  obtain ⟨i, hi, hz0, hz1, hz2⟩ := info_parts Try.info42
  have hr := run_make (P := Try.prog) w 32 42 i _ Try.underlying32 hi hz0 .i64 .i64 n n (by omega) (Int.le_refl _) (by rw [hz2]; omega) (by omega)
  simp only [Int.toNat_natCast, hz1] at hr
  exact hr

theorem ocf_step (s : Nat → ByteArray) (o : Nat → Bool) (k x : Nat) :
    (if x = k * 7 + 6 then .int .i64 0 else if x = k * 7 + 5 then .int .i64 0 else if x = k * 7 + 4 then .bool (o k) else if x = k * 7 + 3 then .pointer none else if x = k * 7 + 2 then .string ⟨#[]⟩ else if x = k * 7 + 1 then .string (s k) else if x = k * 7 then .string ⟨#[]⟩ else ocf s o k x) = ocf s o (k + 1) x := by
  unfold ocf
  by_cases h : x / 7 = k
  · have hx : x = k * 7 + x % 7 := by omega
    have hlt : x % 7 < 7 := by omega
    rw [h, if_pos (show k < k + 1 by omega)]
    obtain ⟨r, hr⟩ : ∃ r, r = x % 7 := ⟨_, rfl⟩
    rw [← hr] at hx hlt ⊢
    subst hx
    have : r = 0 ∨ r = 1 ∨ r = 2 ∨ r = 3 ∨ r = 4 ∨ r = 5 ∨ r = 6 := by omega
    rcases this with rfl | rfl | rfl | rfl | rfl | rfl | rfl <;> simp [ocell, show ByteArray.empty = ⟨#[]⟩ from rfl]
  · have e : x / 7 < k + 1 ↔ x / 7 < k := by omega
    simp only [e]
    rw [if_neg (by omega), if_neg (by omega), if_neg (by omega), if_neg (by omega), if_neg (by omega), if_neg (by omega), if_neg (by omega)]

theorem drew_row {w : World} {b : Nat} {t : TypeId} {n : Nat} {f : Nat → Value} (h : w.rowIs b t n f) : w.drew.rowIs b t n f := h

theorem set1 {w x : World} {b0 N S : Nat} {t : TypeId} {f : Nat → Value} (h : x.rowIs b0 t N f ∧ Below w.heap.size w x ∧ x.heap.size = S) (hle : w.heap.size ≤ b0) (i : Nat) (v : Value) :
    (x.setCell ⟨b0, i, none⟩ v).rowIs b0 t N (fun j => if j = i then v else f j) ∧ Below w.heap.size w (x.setCell ⟨b0, i, none⟩ v) ∧ (x.setCell ⟨b0, i, none⟩ v).heap.size = S :=
  ⟨h.1.set i v, h.2.1.setCell hle v, by have := h.2.2; simpa [World.setCell] using this⟩

theorem ops_step {w wr : World} {b0 n k : Nat} {s : Nat → ByteArray} {o : Nat → Bool} (hrow : wr.rowIs b0 42 (n * 7) (ocf s o k)) (hbel : Below w.heap.size w wr) (hsz : wr.heap.size = w.heap.size + 1) (hle : w.heap.size ≤ b0) :
    (((((((wr.setCell ⟨b0, k * 7, none⟩ (.string ⟨#[]⟩)).setCell ⟨b0, k * 7 + 1, none⟩ (.string (s k))).setCell ⟨b0, k * 7 + 2, none⟩ (.string ⟨#[]⟩)).setCell ⟨b0, k * 7 + 3, none⟩ (.pointer none)).setCell ⟨b0, k * 7 + 4, none⟩ (.bool (o k))).setCell ⟨b0, k * 7 + 5, none⟩ (.int .i64 0)).setCell ⟨b0, k * 7 + 6, none⟩ (.int .i64 0)).drew.rowIs b0 42 (n * 7) (ocf s o (k + 1)) ∧
    Below w.heap.size w (((((((wr.setCell ⟨b0, k * 7, none⟩ (.string ⟨#[]⟩)).setCell ⟨b0, k * 7 + 1, none⟩ (.string (s k))).setCell ⟨b0, k * 7 + 2, none⟩ (.string ⟨#[]⟩)).setCell ⟨b0, k * 7 + 3, none⟩ (.pointer none)).setCell ⟨b0, k * 7 + 4, none⟩ (.bool (o k))).setCell ⟨b0, k * 7 + 5, none⟩ (.int .i64 0)).setCell ⟨b0, k * 7 + 6, none⟩ (.int .i64 0)).drew ∧
    (((((((wr.setCell ⟨b0, k * 7, none⟩ (.string ⟨#[]⟩)).setCell ⟨b0, k * 7 + 1, none⟩ (.string (s k))).setCell ⟨b0, k * 7 + 2, none⟩ (.string ⟨#[]⟩)).setCell ⟨b0, k * 7 + 3, none⟩ (.pointer none)).setCell ⟨b0, k * 7 + 4, none⟩ (.bool (o k))).setCell ⟨b0, k * 7 + 5, none⟩ (.int .i64 0)).setCell ⟨b0, k * 7 + 6, none⟩ (.int .i64 0)).drew.heap.size = w.heap.size + 1 := by
  have h1 := set1 ⟨hrow, hbel, hsz⟩ hle (k * 7) (.string ⟨#[]⟩)
  have h2 := set1 h1 hle (k * 7 + 1) (.string (s k))
  have h3 := set1 h2 hle (k * 7 + 2) (.string ⟨#[]⟩)
  have h4 := set1 h3 hle (k * 7 + 3) (.pointer none)
  have h5 := set1 h4 hle (k * 7 + 4) (.bool (o k))
  have h6 := set1 h5 hle (k * 7 + 5) (.int .i64 0)
  have h7 := set1 h6 hle (k * 7 + 6) (.int .i64 0)
  obtain ⟨r, b, z⟩ := h7
  clear h1 h2 h3 h4 h5 h6
  generalize (((((((wr.setCell ⟨b0, k * 7, none⟩ (.string ⟨#[]⟩)).setCell ⟨b0, k * 7 + 1, none⟩ (.string (s k))).setCell ⟨b0, k * 7 + 2, none⟩ (.string ⟨#[]⟩)).setCell ⟨b0, k * 7 + 3, none⟩ (.pointer none)).setCell ⟨b0, k * 7 + 4, none⟩ (.bool (o k))).setCell ⟨b0, k * 7 + 5, none⟩ (.int .i64 0)).setCell ⟨b0, k * 7 + 6, none⟩ (.int .i64 0)) = W at *
  refine ⟨?_, ⟨b.os, b.tape, b.output, b.size, b.block⟩, z⟩
  apply drew_row
  have e : (fun x => if x = k * 7 + 6 then Value.int .i64 0 else if x = k * 7 + 5 then .int .i64 0 else if x = k * 7 + 4 then .bool (o k) else if x = k * 7 + 3 then .pointer none else if x = k * 7 + 2 then .string ⟨#[]⟩ else if x = k * 7 + 1 then .string (s k) else if x = k * 7 then .string ⟨#[]⟩ else ocf s o k x) = ocf s o (k + 1) := funext (fun x => ocf_step s o k x)
  rw [← e]
  exact r

def OpsPost (n : Nat) (s : Nat → ByteArray) (o : Nat → Bool) (w : World) (e : Ending) (w' : World) : Prop :=
  ∃ a, e = .returned (.slice a n n) ∧ ORow (fun b => b = w.heap.size) w' a n s o ∧ Below w.heap.size w w' ∧ w'.heap.size = w.heap.size + 1

set_option maxRecDepth 10000 in
set_option maxHeartbeats 400000 in
theorem ops11 (a ao : Option Addr) (n c co B : Nat) (s : Nat → ByteArray) (o : Nat → Bool) (w : World) (hlen : n ≤ 300000) (hB : B ≤ w.heap.size) (hs : VRow (· < B) w a n (sv s)) (ho : VRow (· < B) w ao n (bv o)) :
    Calls Try.prog 11 #[.slice a n c, .slice ao n co] w (OpsPost n s o w) := by
  have hmk := make_ops n hlen
  have HA : Hid (VRow (· < B) w a n (sv s)) := hs
  have HO : Hid (VRow (· < B) w ao n (bv o)) := ho
  clear hs ho
  go_enter Try.func11, Try.ntmps11
  go_wp2
  clear hmk
  obtain ⟨b0, hb0⟩ : ∃ b0, b0 = w.heap.size := ⟨_, rfl⟩
  rw [← hb0]
  have HB0 : Hid (b0 = w.heap.size) := hb0
  clear hb0
  go_loopw [6] (fun i wr => ∃ k : Nat, k ≤ n ∧ i = .int .i64 k ∧ Hid (wr.rowIs b0 42 (n * 7) (ocf s o k) ∧ Below w.heap.size w wr ∧ wr.heap.size = w.heap.size + 1)) (fun i _ => n - (intOf i).toNat)
  case atStart => exact ⟨0, Nat.zero_le _, rfl, by rw [HB0.out]; exact (made_ops _ _).congr (fun x _ => by simp [ocf]), (Below.refl _ _).alloc (Nat.le_refl _) _, by simp⟩
  case round =>
    obtain ⟨k, hk, rfl, hI⟩ := hrel
    by_cases hlt : k < n
    · obtain ⟨hrow, hbel, hsz⟩ := hI.out
      obtain ⟨b1, o1, hb1, rfl, h1⟩ := HA.out k hlt
      obtain ⟨b2, o2, hb2, rfl, h2⟩ := HO.out k hlt
      simp only [sv, bv] at h1 h2
      have g1 : wr.cell? ⟨b1, o1 + k, none⟩ = some (.string (s k)) := by rw [hbel.cell (show (⟨b1, o1 + k, none⟩ : Addr).block < w.heap.size from Nat.lt_of_lt_of_le hb1 hB)]; exact h1
      have g2 : wr.cell? ⟨b2, o2 + k, none⟩ = some (.bool (o k)) := by rw [hbel.cell (show (⟨b2, o2 + k, none⟩ : Addr).block < w.heap.size from Nat.lt_of_lt_of_le hb2 hB)]; exact h2
      have c0 := hrow.cell (i := k * 7) (by omega)
      have c1 := hrow.cell (i := k * 7 + 1) (by omega)
      have c2 := hrow.cell (i := k * 7 + 2) (by omega)
      have c3 := hrow.cell (i := k * 7 + 3) (by omega)
      have c4 := hrow.cell (i := k * 7 + 4) (by omega)
      have c5 := hrow.cell (i := k * 7 + 5) (by omega)
      have c6 := hrow.cell (i := k * 7 + 6) (by omega)
      have f0 := hrow.frozen (k * 7)
      have f1 := hrow.frozen (k * 7 + 1)
      have f2 := hrow.frozen (k * 7 + 2)
      have f3 := hrow.frozen (k * 7 + 3)
      have f4 := hrow.frozen (k * 7 + 4)
      have f5 := hrow.frozen (k * 7 + 5)
      have f6 := hrow.frozen (k * 7 + 6)
      clear hrow hbel hsz h1 h2
      go_upto_region 5 with fail
      go_region
      clear c0 c1 c2 c3 c4 c5 c6 f0 f1 f2 f3 f4 f5 f6 g1 g2
      go_wp2
      go_roundw
      case rel =>
        obtain ⟨hrow, hbel, hsz⟩ := hI.out
        have hle : w.heap.size ≤ b0 := by rw [HB0.out]; exact Nat.le_refl _
        exact ⟨k + 1, by omega, by go_num, ops_step hrow hbel hsz hle⟩
      case measure => simp [intOf]; omega
    · go_wp2
      go_ret
      obtain ⟨hrow, hbel, hsz⟩ := hI.out
      have hkn : k = n := by omega
      subst hkn
      refine ⟨_, rfl, fun i hi => ⟨b0, 0, HB0.out, rfl, ?_, ?_⟩, hbel, hsz⟩
      · rw [Nat.zero_add, hrow.cell (by omega)]
        have h1 : (i * 7 + 1) / 7 = i := by omega
        have h2 : (i * 7 + 1) % 7 = 1 := by omega
        unfold ocf
        rw [h1, h2, if_pos hi]
        rfl
      · rw [Nat.zero_add, hrow.cell (by omega)]
        have h1 : (i * 7 + 4) / 7 = i := by omega
        have h2 : (i * 7 + 4) % 7 = 4 := by omega
        unfold ocf
        rw [h1, h2, if_pos hi]
        rfl

end Go.Proofs.Qxb6604061a
