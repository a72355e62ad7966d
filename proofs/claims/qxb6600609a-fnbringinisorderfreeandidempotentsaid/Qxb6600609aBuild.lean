import Derived.Test.Qxb6600609aSame
import Derived.BigQuiet
namespace Go.Proofs.Qxb6600609a
open Go.RowKit Go.SMaps

/-- What the root's map holds when the names of L are left out. -/
def outs (L : List ByteArray) (x : ByteArray) : Option Value := if L.any (fun y => decide ([x] = [y])) then some (.pointer none) else none

theorem outs_nil (x : ByteArray) : outs [] x = none := by simp [outs]

theorem outs_snoc (L : List ByteArray) (y : ByteArray) : outs (L ++ [y]) = fun x => if x = y then some (.pointer none) else outs L x := by
  funext x
  unfold outs
  by_cases e : x = y
  · subst e; simp
  · have hd : decide ([x] = [y]) = false := decide_eq_false (fun h => e (by injection h))
    rw [if_neg e, List.any_append, List.any_cons, List.any_nil, hd, Bool.or_false, Bool.or_false]

structure Root (B : Nat) (w : World) (b : Nat) (r : Bool) (L : List ByteArray) (mo : Option Nat) : Prop where
  blk : w.heap[b]? = some (.cells #[.bool r, .map mo] 46 (0, 0))
  map : ∀ bm, mo = some bm → ∃ n, SMap w bm (outs L) n
  no : mo = none → ∀ x, outs L x = none
  ge : B ≤ b
  gem : ∀ bm, mo = some bm → B ≤ bm

theorem fin0 (r : Bool) (L : List ByteArray) (q : List ByteArray) : fin r L [] q = if q = [] then some (some r) else if L.any (fun x => decide (q = [x])) then some none else none := by
  unfold fin
  simp [any1, any2, any3]

theorem Root.rep {B : Nat} {w : World} {b : Nat} {r : Bool} {L : List ByteArray} {mo : Option Nat} (h : Root B w b r L mo) : Rep B w (fin r L []) (fun _ => b) (fun _ => mo) := by
  have hN : ∀ p, IsN (fin r L []) p → p = [] := by
    rintro p ⟨s, hs⟩
    rw [fin0] at hs
    by_cases e : p = []
    · exact e
    · rw [if_neg e] at hs
      split at hs <;> cases hs
  have hc : ∀ ad p, p = [] → chv (fin r L []) ad p = outs L := by
    rintro ad p rfl
    funext x
    unfold chv outs
    rw [fin0]
    simp only [List.nil_append, if_neg (List.cons_ne_nil x [])]
    split <;> rename_i hh <;> split at hh <;> simp_all
  have hroot : IsN (fin r L []) [] := ⟨r, by rw [fin0, if_pos rfl]⟩
  refine ⟨hroot, fun p x hx => ?_, fun p s hs => ?_, fun p hp hm x => ?_, fun p bm hp hm => ?_, fun p q hp hq _ => by rw [hN p hp, hN q hq], fun p q _ hp hq _ _ => by rw [hN p hp, hN q hq], fun p _ => h.ge, fun p bm _ hm => h.gem bm hm⟩
  · have : p = [] := by
      rw [fin0, if_neg (by simp)] at hx
      by_cases e : p = []
      · exact e
      · exfalso
        apply hx
        rw [if_neg]
        simp only [List.any_eq_true, decide_eq_true_eq, not_exists, not_and]
        intro y _ e2
        have := congrArg List.length e2
        simp only [List.length_append, List.length_cons, List.length_nil] at this
        exact e (List.length_eq_zero_iff.1 (by omega))
    rw [this]
    exact hroot
  · have e := hN p ⟨s, hs⟩
    subst e
    rw [fin0, if_pos rfl] at hs
    cases hs
    exact h.blk
  · have e := hN p hp
    subst e
    have := h.no hm x
    rw [← hc (fun _ => b) [] rfl] at this
    unfold chv at this
    split at this
    · assumption
    · cases this
    · cases this
  · have e := hN p hp
    subst e
    rw [hc _ _ rfl]
    exact h.map bm hm

theorem Root.named {B : Nat} {w w' : World} {b : Nat} {r : Bool} {L : List ByteArray} {mo : Option Nat} {x : ByteArray} {bm : Nat} (h : Root B w b r L mo) (hn : Named w w' b r mo (outs L) x (.pointer none) bm) : Root B w' b r (L ++ [x]) (some bm) ∧ Below B w w' := by
  have hlt := lt_of_block h.blk
  have hge := h.ge
  have hb : B ≤ bm := by
    rcases hm : mo with _ | k
    · have := hn.new hm; omega
    · rw [hn.old k hm]; exact h.gem k hm
  refine ⟨⟨hn.blk, fun k e => ?_, (fun e => by cases e), h.ge, fun k e => by cases e; exact hb⟩, ?_⟩
  · cases e
    obtain ⟨n, hs⟩ := hn.map
    exact ⟨n, by rw [outs_snoc]; exact hs⟩
  · refine ⟨hn.os, hn.tape, hn.output, hn.size, fun k hk => hn.other k (by omega) (by omega) (fun e => ?_)⟩
    have := h.gem k e.symm
    omega

def LeavePost (B b : Nat) (r : Bool) (L : List ByteArray) (w : World) (e : Ending) (w' : World) : Prop := e = .returned (.tuple #[]) ∧ Below B w w' ∧ ∃ mo, Root B w' b r L mo

set_option maxHeartbeats 400000 in
theorem leave_any (B b : Nat) (r : Bool) (L : List ByteArray) (mo : Option Nat) (x : ByteArray) (w : World) (h : Root B w b r L mo) :
    Calls Try.prog 17 #[.pointer (some ⟨b, 0, none⟩), .string x] w (LeavePost B b r (L ++ [x]) w) := by
  go_enter Try.func17, Try.ntmps17
  go_wp2_with fail
  refine (name_any b r mo (outs L) x (.pointer none) w h.blk h.map h.no).mono ?_
  rintro e w' ⟨rfl, bm, hn⟩
  obtain ⟨h1, h2⟩ := h.named hn
  go_wp2
  go_end0
  exact ⟨rfl, h2, _, h1⟩

def NewPost (r : Bool) (w : World) (e : Ending) (w' : World) : Prop := e = .returned (.pointer (some ⟨w.heap.size, 0, none⟩)) ∧ w' = w.alloc (.cells #[.bool r, .map none] 46)

set_option maxHeartbeats 400000 in
theorem new_any (r : Bool) (w : World) : Calls Try.prog 16 #[.bool r] w (NewPost r w) := by
  go_enter Try.func16, Try.ntmps16
  go_wp2
  go_ret
  exact ⟨rfl, rfl⟩

def BuildPost (B : Nat) (S : State) (w : World) (e : Ending) (w' : World) : Prop :=
  ∃ b, e = .returned (.pointer (some ⟨b, 0, none⟩)) ∧ Below B w w' ∧ ∃ ad mm, Rep B w' S ad mm ∧ ad [] = b

set_option maxHeartbeats 1000000 in
theorem build_any (B : Nat) (r : Bool) (L : List ByteArray) (a : Option Addr) (c : Nat) (w : World) (hlen : L.length ≤ 70000) (hB : B ≤ w.heap.size) (hr : SRow B w a L.length (fun i => L.getD i ByteArray.empty)) :
    Calls Try.prog 10 #[.bool r, .slice a L.length c] w (BuildPost B (fin r L []) w) := by
  have HR : Hid (SRow B w a L.length (fun i => L.getD i ByteArray.empty)) := hr
  clear hr
  go_enter Try.func10, Try.ntmps10
  go_wp2_with fail
  refine (new_any r w).mono ?_
  rintro e w1 ⟨rfl, hw1⟩
  obtain ⟨b, hb⟩ : ∃ b, b = w.heap.size := ⟨_, rfl⟩
  rw [← hb]
  have HB : Hid (Root B w1 b r [] none ∧ Below B w w1) := by
    subst hw1 hb
    refine ⟨⟨(Go.MapKept.heap_alloc w _).1, (fun _ e => by cases e), fun _ x => outs_nil x, hB, (fun _ e => by cases e)⟩, (Below.refl _ _).alloc hB _⟩
  clear hw1 hb hB
  go_wp2
  go_loopw [6] (fun i wr => ∃ k : Nat, k ≤ L.length ∧ i = .int .i64 k ∧ Hid (Below B w wr ∧ ∃ mo, Root B wr b r (L.take k) mo)) (fun i _ => L.length - (intOf i).toNat)
  case atStart => exact ⟨0, Nat.zero_le _, rfl, HB.out.2, none, by rw [List.take_zero]; exact HB.out.1⟩
  case round =>
    clear HB
    obtain ⟨k, hk, rfl, hI⟩ := hrel
    by_cases hlt : k < L.length
    · obtain ⟨b1, off, hb1, ea, hc⟩ := (HR.out.below hI.out.1) k hlt
      subst ea
      obtain ⟨x, hx⟩ : ∃ x, x = L.getD k ByteArray.empty := ⟨_, rfl⟩
      simp only at hc
      rw [← hx] at hc
      have hxk : L[k] = x := by rw [hx]; simp [List.getD, hlt]
      have etake : Hid (L.take (k + 1) = L.take k ++ [x]) := by unfold Hid; rw [List.take_succ_eq_append_getElem hlt, hxk]
      clear hx hxk
      obtain ⟨hbel, mo, hroot⟩ := hI.out
      have HBel : Hid (Below B w wr) := hbel
      have HRoot : Hid (Root B wr b r (L.take k) mo) := hroot
      clear hbel hroot hI
      go_wp2_with fail
      refine (leave_any B b r (L.take k) mo x _ HRoot.out).mono ?_
      rintro e w2 ⟨rfl, h1, mo2, h2⟩
      have HF : Hid (Below B w w2 ∧ ∃ mo, Root B w2 b r (L.take (k + 1)) mo) := ⟨HBel.out.trans h1, mo2, by rw [etake.out]; exact h2⟩
      clear h1 h2
      go_wp2
      go_roundw
      case rel => exact ⟨k + 1, by omega, by go_num, HF.out⟩
      case measure => simp [intOf]; omega
    · go_wp2
      go_ret
      have hkn : k = L.length := by omega
      obtain ⟨hbel, mo, hroot⟩ := hI.out
      rw [hkn, List.take_length] at hroot
      exact ⟨b, rfl, hbel, _, _, hroot.rep, rfl⟩

end Go.Proofs.Qxb6600609a
