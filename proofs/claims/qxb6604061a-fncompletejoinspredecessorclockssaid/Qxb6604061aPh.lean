import Derived.Test.Qxb6604061aZZ
import Derived.Test.Qxb6604061aScript
import Derived.Test.Qxb6604061aOps
import Derived.Test.Qxb6604061aBytes
namespace Go.Proofs.Qxb6604061a
open Go.RowKit

def LawPost (w : World) (e : Ending) (w' : World) : Prop := e = .returned (.bool true) ∧ Below w.heap.size w w'

theorem below_drewN (w : World) (q : Nat) : Below w.heap.size w (w.drewN q) := ⟨rfl, rfl, rfl, Nat.le_refl _, fun _ _ => rfl⟩

theorem below_step {B : Nat} {w w1 w2 : World} (h : Below B w w1) (hB : B ≤ w.heap.size) (h2 : Below w1.heap.size w1 w2) : Below B w w2 :=
  h.trans ⟨h2.os, h2.tape, h2.output, h2.size, fun k hk => h2.block k (Nat.lt_of_lt_of_le hk (Nat.le_trans hB h.size))⟩

theorem VRow.up {w w' : World} {a : Option Addr} {n : Nat} {f : Nat → Value} (h : VRow (· < w.heap.size) w a n f) (hb : Below w.heap.size w w') : VRow (· < w'.heap.size) w' a n f :=
  (h.below hb).mono (fun _ h1 => Nat.lt_of_lt_of_le h1 hb.size)

theorem ORow.mono {K K' : Nat → Prop} {w : World} {a : Option Addr} {n : Nat} {s : Nat → ByteArray} {o : Nat → Bool} (h : ORow K w a n s o) (hk : ∀ b, K b → K' b) : ORow K' w a n s o := by
  intro i hi
  obtain ⟨b, off, h1, h2⟩ := h i hi
  exact ⟨b, off, hk b h1, h2⟩

theorem Rd.mono {K K' : Nat → Prop} {D : Hist} {A : Ats} {w : World} (h : Rd K D A w) (hk : ∀ b, K b → K' b) : Rd K' D A w :=
  ⟨h.o.mono hk, h.c.mono hk, h.i.mono hk, h.b.mono hk, h.s.mono hk⟩

/-- What the laws read. -/
structure Lr (K : Nat → Prop) (D : Hist) (A : Ats) (xa xo : Option Addr) (w : World) : Prop where
  rd : Rd K D A w
  s : VRow K w xa D.n (sv D.s)
  o : VRow K w xo D.n (bv D.o)

theorem Lr.kept {K : Nat → Prop} {D : Hist} {A : Ats} {xa xo : Option Addr} {w w' : World} (h : Lr K D A xa xo w) (hk : Kept K w w') : Lr K D A xa xo w' := ⟨h.rd.kept hk, h.s.kept hk, h.o.kept hk⟩

/-- 'make([]int32, l, c)'. -/
theorem make_cap (l c : Nat) (hl : l ≤ c) (hc : c ≤ 10000000) (w : World) :
    (Instr.makeSlice 24 (.int .i64 (l : Int)) (.int .i64 (c : Int))).run Try.prog w = .ok (.slice (some ⟨w.heap.size, 0, none⟩) l c) (w.alloc (.cells (madeCells #[.int .i32 0] c) 21)) := by
  obtain ⟨i, hi, hz0, hz1, hz2⟩ := info_parts Try.info21
  have hr := run_make (P := Try.prog) w 24 21 i _ Try.underlying24 hi hz0 .i64 .i64 l c (by omega) (by omega) (by rw [hz2]; omega) (by omega)
  simp only [Int.toNat_natCast, hz1, Nat.mul_one] at hr
  exact hr

/-- The memory of the script's third part. -/
structure Ph (D : Hist) (gb cb mb kb wb nc : Nat) (w0 : World) (mark stack want : Nat → Int) (w : World) : Prop where
  kept : Kept (· < gb) w0 w
  grp : w.rowIs gb 21 D.n (iv (gN D.n))
  clk : w.rowIs cb 21 nc (iv (zN D D.n))
  mrk : w.rowIs mb 21 D.n (iv mark)
  sk : w.rowIs kb 21 D.n (iv stack)
  wt : w.rowIs wb 21 D.C (iv want)
  ne : gb < cb ∧ cb < mb ∧ mb < kb ∧ kb < wb

section
variable {D : Hist} {gb cb mb kb wb nc : Nat} {w0 w : World} {mark stack want : Nat → Int}

theorem Ph.drewN (h : Ph D gb cb mb kb wb nc w0 mark stack want w) (q : Nat) : Ph D gb cb mb kb wb nc w0 mark stack want (w.drewN q) :=
  ⟨⟨h.kept.os, h.kept.tape, h.kept.output, h.kept.size, h.kept.block⟩, h.grp, h.clk, h.mrk, h.sk, h.wt, h.ne⟩

theorem kept_set {K : Nat → Prop} {w0 w : World} (h : Kept K w0 w) {b i : Nat} (hb : ¬ K b) (v : Value) : Kept K w0 (w.setCell ⟨b, i, none⟩ v) :=
  ⟨h.os, h.tape, h.output, Nat.le_trans h.size (by simp [World.setCell]), fun k hk => by
    rw [heap_setCell_other _ _ _ _ (by intro e; exact hb (by rw [show b = k from e.symm]; exact hk))]
    exact h.block k hk⟩

theorem row_set {w : World} {b n : Nat} {z : Nat → Int} (h : w.rowIs b 21 n (iv z)) (x : Nat) (v : Int) : (w.setCell ⟨b, x, none⟩ (.int .i32 v)).rowIs b 21 n (iv fun y => if y = x then v else z y) :=
  (h.set x _).congr (fun i _ => by unfold iv; by_cases e : i = x <;> simp [e])

theorem Ph.setM (h : Ph D gb cb mb kb wb nc w0 mark stack want w) (x : Nat) (v : Int) : Ph D gb cb mb kb wb nc w0 (fun y => if y = x then v else mark y) stack want (w.setCell ⟨mb, x, none⟩ (.int .i32 v)) := by
  obtain ⟨n1, n2, n3, n4⟩ := h.ne
  exact ⟨kept_set h.kept (by show ¬ mb < gb; omega) _, rowIs_other h.grp (by omega), rowIs_other h.clk (by omega), row_set h.mrk x v, rowIs_other h.sk (by omega), rowIs_other h.wt (by omega), h.ne⟩

theorem Ph.setK (h : Ph D gb cb mb kb wb nc w0 mark stack want w) (x : Nat) (v : Int) : Ph D gb cb mb kb wb nc w0 mark (fun y => if y = x then v else stack y) want (w.setCell ⟨kb, x, none⟩ (.int .i32 v)) := by
  obtain ⟨n1, n2, n3, n4⟩ := h.ne
  exact ⟨kept_set h.kept (by show ¬ kb < gb; omega) _, rowIs_other h.grp (by omega), rowIs_other h.clk (by omega), rowIs_other h.mrk (by omega), row_set h.sk x v, rowIs_other h.wt (by omega), h.ne⟩

theorem Ph.setW (h : Ph D gb cb mb kb wb nc w0 mark stack want w) (x : Nat) (v : Int) : Ph D gb cb mb kb wb nc w0 mark stack (fun y => if y = x then v else want y) (w.setCell ⟨wb, x, none⟩ (.int .i32 v)) := by
  obtain ⟨n1, n2, n3, n4⟩ := h.ne
  exact ⟨kept_set h.kept (by show ¬ wb < gb; omega) _, rowIs_other h.grp (by omega), rowIs_other h.clk (by omega), rowIs_other h.mrk (by omega), rowIs_other h.sk (by omega), row_set h.wt x v, h.ne⟩
end

end Go.Proofs.Qxb6604061a
