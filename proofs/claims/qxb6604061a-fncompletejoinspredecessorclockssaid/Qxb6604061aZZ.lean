import Derived.Test.Qxb6604061aComplete
namespace Go.Proofs.Qxb6604061a
open Go.RowKit

/-- The blocks that the call does not write. -/
def Rest (w : World) (gb cb b : Nat) : Prop := b < w.heap.size ∧ b ≠ gb ∧ b ≠ cb

def ZZPost (n : Nat) (ga : Option Addr) (gc gb cb len cc : Nat) (G Z : Nat → Int) (w : World) (e : Ending) (w' : World) : Prop :=
  e = .returned (.tuple #[.slice ga n gc, .slice (some ⟨cb, 0, none⟩) len cc]) ∧ Kept (Rest w gb cb) w w' ∧ (0 < n → w'.rowIs gb 21 n (iv G)) ∧ w'.rowIs cb 21 cc (iv Z)

set_option maxRecDepth 10000 in
set_option maxHeartbeats 1000000 in
theorem zz12 (D : Hist) (A : Ats) (ga ma : Option Addr) (gc gb cb k r cc m mc : Nat) (g c : Nat → Int) (mem : Nat → Nat) (w : World)
    (hgrp : 0 < D.n → w.rowIs gb 21 D.n (iv g) ∧ gb ≠ cb ∧ ga = some ⟨gb, 0, none⟩) (hclk : w.rowIs cb 21 cc (iv c)) (hrd : Rd (Rest w gb cb) D A w) (hmr : VRow (Rest w gb cb) w ma m (iv fun t => (mem t : Int))) (hm : Mem D g k m mem) (hr : r = k * D.C) (hcc : r + D.C ≤ cc) (hcc2 : cc ≤ 1000000) (hC : 1 ≤ D.C)
    (hn : D.n ≤ 262144) (hmm : m ≤ 262144) (hz : ∀ j, j < D.C → c (r + j) = 0) :
    Calls Try.prog 12 #[.slice A.oa D.n D.n, .int .i64 (D.C : Int), .slice A.ca D.n D.n, .slice A.ia D.n D.n, .slice A.ba D.n D.n, .slice A.sa D.n D.n, .slice ga D.n gc, .slice (some ⟨cb, 0, none⟩) r cc, .slice ma m mc] w
      (ZZPost D.n ga gc gb cb (r + D.C) cc (gs g k mem m) (cv r D.C c (js D c (gs g k mem m) k mem m)) w) := by
  have hold : ∀ b, Rest w gb cb b → Old (w.alloc (.cells (chk D A ga gc cb r cc) 47)) gb cb w.heap.size b := fun b hb => ⟨by simp; exact Nat.lt_succ_of_lt hb.1, hb.2.1, hb.2.2, Nat.ne_of_lt hb.1⟩
  have hk0 : Kept (Rest w gb cb) w (w.alloc (.cells (chk D A ga gc cb r cc) 47)) := ⟨rfl, rfl, rfl, by simp, fun b hb => Below.heap_alloc _ _ _ hb.1⟩
  have hst : St D A ga gc gb cb r cc w.heap.size (w.alloc (.cells (chk D A ga gc cb r cc) 47)) g c (w.alloc (.cells (chk D A ga gc cb r cc) 47)) :=
    ⟨Kept.refl _ _, heap_alloc_new _ _, fun h => rowIs_alloc_keep (hgrp h).1 _, rowIs_alloc_keep hclk _, fun h => ⟨fun e => absurd (hgrp h).1.lt (by omega), (hgrp h).2⟩, fun e => absurd hclk.lt (by omega)⟩
  have HCALL : Hid (Calls Try.prog 18 #[.pointer (some ⟨w.heap.size, 0, none⟩), .slice ma m mc] (w.alloc (.cells (chk D A ga gc cb r cc) 47)) (ComplPost D A ga gc gb cb (r + D.C) cc w.heap.size (w.alloc (.cells (chk D A ga gc cb r cc) 47)) (gs g k mem m) (cv r D.C c (js D c (gs g k mem m) k mem m)))) :=
    complete18 D A ga ma gc gb cb k r cc w.heap.size m mc g c mem _ hst (by
      have h := hrd.kept hk0
      exact ⟨fun i hi => by obtain ⟨b, off, h1, h2⟩ := h.o i hi; exact ⟨b, off, hold b h1, h2⟩, h.c.mono hold, h.i.mono hold, h.b.mono hold, h.s.mono hold⟩) ((hmr.kept hk0).mono hold) hm hr hcc hcc2 hC hn hmm hz
  have HK0 : Hid (Kept (Rest w gb cb) w (w.alloc (.cells (chk D A ga gc cb r cc) 47))) := hk0
  have HOLD : Hid (∀ b, Rest w gb cb b → Old (w.alloc (.cells (chk D A ga gc cb r cc) 47)) gb cb w.heap.size b) := hold
  clear hold hk0 hst hgrp hclk hrd hmr hm hr hz
  go_enter Try.func12, Try.ntmps12
  go_wp2_with fail
  refine HCALL.out.mono ?_
  rintro e w1 ⟨rfl, h1⟩
  have HST : Hid (St D A ga gc gb cb (r + D.C) cc w.heap.size (w.alloc (.cells (chk D A ga gc cb r cc) 47)) (gs g k mem m) (cv r D.C c (js D c (gs g k mem m) k mem m)) w1) := h1
  obtain ⟨_, _, _, _, _, _, c7, c8, _⟩ := chk_cells h1.chk
  clear h1 HCALL
  go_upto_region 3 with fail
  go_quiet (fail)
  go_wp2
  go_ret2
  have hk := HK0.out.trans (HST.out.kept.mono HOLD.out)
  exact ⟨rfl, ⟨hk.os, hk.tape, hk.output, hk.size, hk.block⟩, HST.out.grp, HST.out.clk⟩

end Go.Proofs.Qxb6604061a
