import Derived.Test.Qxb6600609aProg
import Derived.Test.Qxb6600609aRep
import Derived.WalkSpells
import Derived.WalkLawsBesides
import Derived.Deep.Cut
namespace Go.Proofs.Qxb6600609a
open Go.RowKit Go.SMaps

/-- The world behind a name, with what is known of it. -/
theorem wp_gen {P : Program} {c : Code} {Q : Exit → Act → World → Prop} {a : Act} {w : World} (R : World → Prop) (h : R w) (k : ∀ w', R w' → Code.wp P c Q a w') : Code.wp P c Q a w := k w h

theorem zero29 (w : World) : (zeroValue 29).run Try.prog w = .ok (.pointer none) w := by kernel_rfl

theorem sel_cells {w : World} {b : Nat} {r : Bool} {mo : Option Nat} (h : w.heap[b]? = some (.cells #[.bool r, .map mo] 46 (0, 0))) : w.cell? ⟨b, 0, none⟩ = some (.bool r) ∧ w.cell? ⟨b, 1, none⟩ = some (.map mo) ∧ w.frozen? ⟨b, 1, none⟩ = false := by
  refine ⟨?_, ?_, ?_⟩
  · simp [World.cell?, h]
  · simp [World.cell?, h]
  · simp [World.frozen?, h]

def NamePost (b : Nat) (r : Bool) (mo : Option Nat) (m : ByteArray → Option Value) (x : ByteArray) (v : Value) (w : World) (e : Ending) (w' : World) : Prop :=
  e = .returned (.tuple #[]) ∧ ∃ bm, Named w w' b r mo m x v bm

set_option maxHeartbeats 1000000 in
theorem name_any (b : Nat) (r : Bool) (mo : Option Nat) (m : ByteArray → Option Value) (x : ByteArray) (v : Value) (w : World) (hblk : w.heap[b]? = some (.cells #[.bool r, .map mo] 46 (0, 0)))
    (hm : ∀ bm, mo = some bm → ∃ n, SMap w bm m n) (hno : mo = none → ∀ s, m s = none) :
    Calls Try.prog 24 #[.pointer (some ⟨b, 0, none⟩), .string x, v] w (NamePost b r mo m x v w) := by
  obtain ⟨c0, c1, f1⟩ := sel_cells hblk
  have heq := fun w r => run_eql_map_nil (P := Try.prog) w 44 9 29 r Try.underlying44
  have hmm := @run_makeMap Try.prog
  have HB : Hid (w.heap[b]? = some (.cells #[.bool r, .map mo] 46 (0, 0))) := hblk
  have hlt := lt_of_block hblk
  clear hblk
  cases mo with
  | none =>
    have HN := (show Hid _ from hno rfl)
    clear hno hm
    go_enter Try.func24, Try.ntmps24
    go_upto_region 2 with fail
    obtain ⟨bm, hbm⟩ : ∃ bm, bm = w.heap.size := ⟨_, rfl⟩
    rw [← hbm]
    have hz : (w.setCell ⟨b, 1, none⟩ (.map (some bm))).heap.size = bm := by rw [hbm]; simp [World.setCell]
    refine wp_gen (fun w1 => w1.heap[b]? = some (.cells #[.bool r, .map (some bm)] 46 (0, 0)) ∧ SMap w1 bm m 0 ∧ (∀ k, k < w.heap.size → k ≠ b → w1.heap[k]? = w.heap[k]?) ∧ w1.os = w.os ∧ w1.tape = w.tape ∧ w1.output = w.output ∧ w.heap.size ≤ w1.heap.size) ?_ ?_
    · refine ⟨?_, ?_, ?_, rfl, rfl, rfl, by simp⟩
      · rw [Below.heap_alloc _ _ _ (by rw [hz, hbm]; exact hlt), heap_setCell_same w b 1 _ 46 _ HB.out]
        simp
      · have := SMap.made (w.setCell ⟨b, 1, none⟩ (.map (some bm)))
        rw [hz] at this
        exact this.congr HN.out
      · intro k hk hkb
        rw [Below.heap_alloc _ _ _ (by rw [hz, hbm]; exact hk), heap_setCell_other _ _ _ _ (by exact hkb)]
    · intro w1 ⟨h1, h2, h3, h4, h5, h6, h7⟩
      obtain ⟨w', hrun, hs2, hg2, hz2, ho2⟩ := h2.put (P := Try.prog) (t := 44) Try.underlying44 Try.underlying9 x v
      obtain ⟨d0, d1, _⟩ := sel_cells h1
      have H2 : Hid (Named w w' b r none m x v bm) := by
        refine ⟨?_, ⟨_, hs2⟩, (fun k hk => by cases hk), fun _ => by omega, fun k hk hk1 _ => by rw [ho2 k (by omega), h3 k hk hk1], hg2.os.trans h4, hg2.tape.trans h5, hg2.output.trans h6, Nat.le_trans h7 hg2.size⟩
        rw [ho2 b (by omega)]
        exact h1
      clear hs2 hg2 hz2 ho2 h1 h2 h3 h4 h5 h6 h7 hz hbm c0 c1 f1
      go_wp2
      go_end0
      exact ⟨rfl, bm, H2.out⟩
  | some bm =>
    obtain ⟨n, hs⟩ := hm bm rfl
    obtain ⟨w', hrun, hs2, hg2, hz2, ho2⟩ := hs.put (P := Try.prog) (t := 44) Try.underlying44 Try.underlying9 x v
    have HS : Hid (SMap w bm m n) := hs
    have H2 : Hid (Named w w' b r (some bm) m x v bm) := by
      refine ⟨?_, ⟨_, hs2⟩, fun k hk => by cases hk; rfl, (fun e => by cases e), fun k _ hk1 hk2 => ho2 k (fun e => hk2 (by rw [e])), hg2.os, hg2.tape, hg2.output, hg2.size⟩
      rw [ho2 b ?_]
      · exact HB.out
      · intro e
        obtain ⟨es, clock, hb, _⟩ := hs
        rw [← e, HB.out] at hb
        cases hb
    clear hs hs2 hg2 hz2 ho2 hno hm
    go_enter Try.func24, Try.ntmps24
    go_wp2
    go_end0
    exact ⟨rfl, bm, H2.out⟩

set_option maxHeartbeats 400000 in
theorem rest_any (b : Nat) (r : Bool) (mo : Option Nat) (w : World) (hblk : w.heap[b]? = some (.cells #[.bool r, .map mo] 46 (0, 0))) :
    Calls Try.prog 20 #[.pointer (some ⟨b, 0, none⟩)] w fun e w' => e = .returned (.bool r) ∧ w' = w := by
  obtain ⟨c0, c1, f1⟩ := sel_cells hblk
  clear hblk
  go_enter Try.func20, Try.ntmps20
  go_wp2
  go_ret
  exact ⟨rfl, rfl⟩

set_option maxHeartbeats 400000 in
theorem count_any (b : Nat) (r : Bool) (mo : Option Nat) (n : Nat) (w : World) (hblk : w.heap[b]? = some (.cells #[.bool r, .map mo] 46 (0, 0))) (hm : ∀ ty, (Builtin.len_ #[44] ty #[.map mo]).run Try.prog w = .ok (.int .i64 (n : Int)) w) :
    Calls Try.prog 21 #[.pointer (some ⟨b, 0, none⟩)] w fun e w' => e = .returned (.int .i64 (n : Int)) ∧ w' = w := by
  obtain ⟨c0, c1, f1⟩ := sel_cells hblk
  clear hblk
  go_enter Try.func21, Try.ntmps21
  go_wp2
  go_ret
  exact ⟨rfl, rfl⟩

set_option maxHeartbeats 400000 in
theorem member_any (b : Nat) (r : Bool) (mo : Option Nat) (x : ByteArray) (v : Value) (ok : Bool) (w : World) (hblk : w.heap[b]? = some (.cells #[.bool r, .map mo] 46 (0, 0))) (hl : (Instr.lookup 44 (.map mo) (.string x) true).run Try.prog w = .ok (.tuple #[v, .bool ok]) w) :
    Calls Try.prog 19 #[.pointer (some ⟨b, 0, none⟩), .string x] w fun e w' => e = .returned (.tuple #[v, .bool ok]) ∧ w' = w := by
  obtain ⟨c0, c1, f1⟩ := sel_cells hblk
  clear hblk
  go_enter Try.func19, Try.ntmps19
  go_wp2
  go_ret2
  exact ⟨rfl, rfl⟩

end Go.Proofs.Qxb6600609a
