import Derived.Test.Qxb6600523aBB
namespace Go.Proofs.Qxb6600523a
open Go.RowKit

set_option maxHeartbeats 400000 in
theorem zz_any (aF aP : Option Addr) (n m cF cP : Nat) (F P : Nat → Nat) (w : World) (hn : n ≤ 100000) (hm : m ≤ 100000) (sg : SG n m F P) (J : St → Prop) (hJ : Runs n F P J)
    (hF : Row .i64 w aF (n + 1) (fun i => (F i : Int))) (hP : Row .i32 w aP m (fun i => (P i : Int))) :
    Calls Try.prog 18 #[.slice aF (n + 1) cF, .slice aP m cP] w (BlockPost F J w) := by
  have hbel : ∀ o, Below w.heap.size w (w.alloc o) := fun o => (Below.refl _ _).alloc (Nat.le_refl _) o
  go_enter Try.func18, Try.ntmps18
  go_wp2_with (first | (go_at_call 21; refine (block_any aF aP n m cF cP w.heap.size 0 F P _ hn hm sg J hJ (hF.below (hbel _) (Nat.le_refl _)) (hP.below (hbel _) (Nat.le_refl _)) (by simp) (by simp)).mono ?_))
  rintro e w' ⟨s, c, nx, h1, h2, h3, rfl, h5⟩
  go_wp2
  go_ret
  exact ⟨s, c, nx, h1, h2, h3, rfl, (hbel _).trans (h5.mono (by simp))⟩

end Go.Proofs.Qxb6600523a
