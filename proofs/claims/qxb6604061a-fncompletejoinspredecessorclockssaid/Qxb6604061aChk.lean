import Derived.Test.Qxb6604061aGuard
namespace Go.Proofs.Qxb6604061a
open Go.RowKit

/-- The plain data of a history. -/
structure Hist where
  n : Nat
  C : Nat
  s : Nat → ByteArray
  o : Nat → Bool
  cl : Nat → Int
  ix : Nat → Int
  be : Nat → Int
  so : Nat → Int

/-- Where it lies. -/
structure Ats where
  oa : Option Addr
  ca : Option Addr
  ia : Option Addr
  ba : Option Addr
  sa : Option Addr

/-- A row of operations: their names and outcomes. -/
def ORow (K : Nat → Prop) (w : World) (a : Option Addr) (n : Nat) (s : Nat → ByteArray) (o : Nat → Bool) : Prop :=
  ∀ i, i < n → ∃ b off, K b ∧ a = some ⟨b, off, none⟩ ∧ w.cell? ⟨b, off + i * 7 + 1, none⟩ = some (.string (s i)) ∧ w.cell? ⟨b, off + i * 7 + 4, none⟩ = some (.bool (o i))

theorem ORow.kept {K : Nat → Prop} {w w' : World} {a : Option Addr} {n : Nat} {s : Nat → ByteArray} {o : Nat → Bool} (h : ORow K w a n s o) (hk : Kept K w w') : ORow K w' a n s o := by
  intro i hi
  obtain ⟨b, off, h1, h2, h3, h4⟩ := h i hi
  exact ⟨b, off, h1, h2, (hk.cell h1).trans h3, (hk.cell h1).trans h4⟩

/-- The cells of a checker. -/
def chk (D : Hist) (A : Ats) (ga : Option Addr) (gc cb len cc : Nat) : Array Value :=
  #[.slice A.oa D.n D.n, .int .i64 (D.C : Int), .slice A.ca D.n D.n, .slice A.ia D.n D.n, .slice A.ba D.n D.n, .slice A.sa D.n D.n, .map none, .slice ga D.n gc, .slice (some ⟨cb, 0, none⟩) len cc, .map none]

theorem chk_cells {w : World} {D : Hist} {A : Ats} {ga : Option Addr} {gc cb len cc sb : Nat} (h : w.heap[sb]? = some (.cells (chk D A ga gc cb len cc) 47 (0, 0))) :
    w.cell? ⟨sb, 0, none⟩ = some (.slice A.oa D.n D.n) ∧ w.cell? ⟨sb, 1, none⟩ = some (.int .i64 (D.C : Int)) ∧ w.cell? ⟨sb, 2, none⟩ = some (.slice A.ca D.n D.n) ∧ w.cell? ⟨sb, 3, none⟩ = some (.slice A.ia D.n D.n) ∧ w.cell? ⟨sb, 4, none⟩ = some (.slice A.ba D.n D.n) ∧
    w.cell? ⟨sb, 5, none⟩ = some (.slice A.sa D.n D.n) ∧ w.cell? ⟨sb, 7, none⟩ = some (.slice ga D.n gc) ∧ w.cell? ⟨sb, 8, none⟩ = some (.slice (some ⟨cb, 0, none⟩) len cc) ∧ w.frozen? ⟨sb, 8, none⟩ = false := by
  refine ⟨?_, ?_, ?_, ?_, ?_, ?_, ?_, ?_, ?_⟩
  all_goals simp [World.cell?, World.frozen?, h, chk]

def Ord21Post (D : Hist) (i : Nat) (w : World) (e : Ending) (w' : World) : Prop := e = .returned (.bool (ordb (D.s i) (D.o i))) ∧ w' = w

set_option maxHeartbeats 1000000 in
theorem ordered21 (K : Nat → Prop) (D : Hist) (A : Ats) (ga : Option Addr) (gc cb len cc sb i : Nat) (w : World) (h : w.heap[sb]? = some (.cells (chk D A ga gc cb len cc) 47 (0, 0))) (hr : ORow K w A.oa D.n D.s D.o) (hi : i < D.n) :
    Calls Try.prog 21 #[.pointer (some ⟨sb, 0, none⟩), .int .i32 (i : Int)] w (Ord21Post D i w) := by
  obtain ⟨c0, _⟩ := chk_cells h
  obtain ⟨b, off, _, ea, h1, h2⟩ := hr i hi
  rw [ea] at c0
  clear h hr ea
  unfold Ord21Post
  generalize D.s i = si at *
  generalize D.o i = oi at *
  generalize D.n = n at *
  by_cases hp : si = ⟨#[112, 117, 116]⟩
  · have ho : ordb si oi = oi := by simp [ordb, hp]
    rw [ho]
    subst hp
    clear ho
    go_enter Try.func21, Try.ntmps21
    go_wp2
    go_ret
    exact ⟨rfl, rfl⟩
  · have ho : ordb si oi = true := by simp [ordb, hp]
    rw [ho]
    have h' := ne_put hp
    clear ho hp
    go_enter Try.func21, Try.ntmps21
    go_wp2
    go_ret
    exact ⟨rfl, rfl⟩

def ClockPost (v : Value) (w : World) (e : Ending) (w' : World) : Prop := ∃ q, e = .returned v ∧ w' = w.drewN q

set_option maxHeartbeats 1000000 in
theorem clock20 (D : Hist) (A : Ats) (gb gc cb len cc sb p g r : Nat) (w : World) (h : w.heap[sb]? = some (.cells (chk D A (some ⟨gb, 0, none⟩) gc cb len cc) 47 (0, 0))) (hg : w.cell? ⟨gb, p, none⟩ = some (.int .i32 (g : Int))) (hp : p < D.n) (hr : r = g * D.C)
    (hl : r + D.C ≤ cc) (hcc : cc ≤ 1000000) (hg2 : g ≤ 1000000) (hC : D.C ≤ 1000000) (hC1 : 1 ≤ D.C) :
    Calls Try.prog 20 #[.pointer (some ⟨sb, 0, none⟩), .int .i32 (p : Int)] w (ClockPost (.slice (some ⟨cb, r, none⟩) D.C (cc - r)) w) := by
  obtain ⟨_, c1, _, _, _, _, c7, c8, _⟩ := chk_cells h
  have hgc : (g : Int) * (D.C : Int) = (r : Int) := by rw [hr]; exact (Int.natCast_mul g D.C).symm
  clear h hr
  generalize D.C = C at *
  generalize D.n = n at *
  go_enter Try.func20, Try.ntmps20
  go_upto_region 1 with fail
  go_quiet (fail)
  go_wp2_with fail
  go_quiet (fail)
  go_wp2
  go_ret
  refine ⟨_, ?_, (World.drewN_drewN _ _ _)⟩
  show Ending.returned (.slice (some ⟨cb, r, none⟩) (r + C - r) (cc - r)) = _
  rw [Nat.add_sub_cancel_left]

def EdgesPost (x y : Int) (w : World) (e : Ending) (w' : World) : Prop := ∃ q, e = .returned (.agg #[.int .i32 x, .int .i32 y]) ∧ w' = (w.alloc (.cells #[.int .i32 x, .int .i32 y] 49)).drewN q

set_option maxHeartbeats 1000000 in
theorem edges19 (D : Hist) (A : Ats) (ga : Option Addr) (gc cb len cc sb i : Nat) (w : World) (h : w.heap[sb]? = some (.cells (chk D A ga gc cb len cc) 47 (0, 0))) (hb : VRow (fun b => b < w.heap.size) w A.ba D.n (iv D.be)) (hs : VRow (fun b => b < w.heap.size) w A.sa D.n (iv D.so)) (hi : i < D.n) :
    Calls Try.prog 19 #[.pointer (some ⟨sb, 0, none⟩), .int .i32 (i : Int)] w (EdgesPost (D.be i) (D.so i) w) := by
  obtain ⟨_, _, _, _, c4, c5, _, _, _⟩ := chk_cells h
  obtain ⟨b1, o1, hb1, ea, h1⟩ := hb i hi
  obtain ⟨b2, o2, hb2, eb, h2⟩ := hs i hi
  rw [ea] at c4
  rw [eb] at c5
  simp only [iv] at h1 h2
  have hsb := lt_of_block h
  have al : ∀ (o : Obj) (b off : Nat), b < w.heap.size → (w.alloc o).cell? ⟨b, off, none⟩ = w.cell? ⟨b, off, none⟩ := fun o b off hb => by simp only [World.cell?]; rw [Below.heap_alloc _ _ _ hb]
  have d4 := (al (.cells #[.int .i32 0, .int .i32 0] 49) sb 4 hsb).trans c4
  have d5 := (al (.cells #[.int .i32 0, .int .i32 0] 49) sb 5 hsb).trans c5
  have g1 := (al (.cells #[.int .i32 0, .int .i32 0] 49) b1 (o1 + i) hb1).trans h1
  have g2 := (al (.cells #[.int .i32 0, .int .i32 0] 49) b2 (o2 + i) hb2).trans h2
  clear h hb hs ea eb al
  generalize D.be i = x at *
  generalize D.so i = y at *
  generalize D.n = n at *
  go_enter Try.func19, Try.ntmps19
  go_wp2_with fail
  go_region
  go_wp2
  (try simp only [Exit.inBlock, Exit.then])
  refine bodyPost_ret (results_cell_row rfl _ _ w.heap.size 49 #[.int .i32 x, .int .i32 y] (0, 0) _ rfl (by exact heap_alloc_new _ _) Try.underlying49 rfl (by kernel_rfl)) rfl ?_
  exact ⟨1, rfl, rfl⟩

end Go.Proofs.Qxb6604061a
