import Derived.Test.Qxb6604061aPlain
namespace Go.Proofs.Qxb6604061a
open Go.RowKit

/-- The blocks that 'complete' does not write. -/
def Old (w : World) (gb cb sb b : Nat) : Prop := b < w.heap.size ∧ b ≠ gb ∧ b ≠ cb ∧ b ≠ sb

/-- The memory while 'complete' runs. -/
structure St (D : Hist) (A : Ats) (ga : Option Addr) (gc gb cb len cc sb : Nat) (w0 : World) (G Z : Nat → Int) (w : World) : Prop where
  kept : Kept (Old w0 gb cb sb) w0 w
  chk : w.heap[sb]? = some (.cells (chk D A ga gc cb len cc) 47 (0, 0))
  grp : 0 < D.n → w.rowIs gb 21 D.n (iv G)
  clk : w.rowIs cb 21 cc (iv Z)
  sg : 0 < D.n → sb ≠ gb ∧ gb ≠ cb ∧ ga = some ⟨gb, 0, none⟩
  sc : sb ≠ cb

section
variable {D : Hist} {A : Ats} {ga : Option Addr} {gc gb cb len cc sb : Nat} {w0 w : World} {G Z : Nat → Int}

theorem St.drewN (h : St D A ga gc gb cb len cc sb w0 G Z w) (q : Nat) : St D A ga gc gb cb len cc sb w0 G Z (w.drewN q) := ⟨⟨h.kept.os, h.kept.tape, h.kept.output, h.kept.size, h.kept.block⟩, h.chk, h.grp, h.clk, h.sg, h.sc⟩

theorem rowIs_alloc_keep {w : World} {b n : Nat} {t : TypeId} {f : Nat → Value} (h : w.rowIs b t n f) (o : Obj) : (w.alloc o).rowIs b t n f := by
  obtain ⟨c, h1, h2⟩ := h
  exact ⟨c, (Below.heap_alloc _ _ _ (lt_of_block h1)).trans h1, h2⟩

theorem St.alloc (h : St D A ga gc gb cb len cc sb w0 G Z w) (o : Obj) : St D A ga gc gb cb len cc sb w0 G Z (w.alloc o) := by
  refine ⟨⟨h.kept.os, h.kept.tape, h.kept.output, Nat.le_trans h.kept.size (by simp), fun b hb => ?_⟩, ?_, fun hn => rowIs_alloc_keep (h.grp hn) o, rowIs_alloc_keep h.clk o, h.sg, h.sc⟩
  · rw [Below.heap_alloc _ _ _ (Nat.lt_of_lt_of_le hb.1 h.kept.size)]
    exact h.kept.block b hb
  · rw [Below.heap_alloc _ _ _ (lt_of_block h.chk)]
    exact h.chk

theorem rowIs_other {w : World} {b n b' i : Nat} {t : TypeId} {f : Nat → Value} {v : Value} (h : w.rowIs b t n f) (hb : b ≠ b') : (w.setCell ⟨b', i, none⟩ v).rowIs b t n f := by
  obtain ⟨c, h1, h2⟩ := h
  exact ⟨c, (heap_setCell_other _ _ _ _ hb).trans h1, h2⟩

theorem St.setC (h : St D A ga gc gb cb len cc sb w0 G Z w) (x : Nat) (v : Int) : St D A ga gc gb cb len cc sb w0 G (fun y => if y = x then v else Z y) (w.setCell ⟨cb, x, none⟩ (.int .i32 v)) := by
  refine ⟨⟨h.kept.os, h.kept.tape, h.kept.output, Nat.le_trans h.kept.size (by simp [World.setCell]), fun b hb => ?_⟩, ?_, fun hn => rowIs_other (h.grp hn) (h.sg hn).2.1, ?_, h.sg, h.sc⟩
  · rw [heap_setCell_other _ _ _ _ (by exact hb.2.2.1)]
    exact h.kept.block b hb
  · rw [heap_setCell_other _ _ _ _ (by exact h.sc)]
    exact h.chk
  · exact (h.clk.set x _).congr (fun i _ => by unfold iv; by_cases e : i = x <;> simp [e])

theorem St.setG (h : St D A ga gc gb cb len cc sb w0 G Z w) (hn : 0 < D.n) (x : Nat) (v : Int) : St D A ga gc gb cb len cc sb w0 (fun y => if y = x then v else G y) Z (w.setCell ⟨gb, x, none⟩ (.int .i32 v)) := by
  refine ⟨⟨h.kept.os, h.kept.tape, h.kept.output, Nat.le_trans h.kept.size (by simp [World.setCell]), fun b hb => ?_⟩, ?_, fun hn => ?_, rowIs_other h.clk (fun e => (h.sg hn).2.1 e.symm), h.sg, h.sc⟩
  · rw [heap_setCell_other _ _ _ _ (by exact hb.2.1)]
    exact h.kept.block b hb
  · rw [heap_setCell_other _ _ _ _ (by exact (h.sg hn).1)]
    exact h.chk
  · exact ((h.grp hn).set x _).congr (fun i _ => by unfold iv; by_cases e : i = x <;> simp [e])

end

end Go.Proofs.Qxb6604061a
