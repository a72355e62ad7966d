import Derived.Test.Qxb6604061aMem
import Derived.WalkKit
import Derived.ProofKit
import Derived.OpenShut
import Derived.ShutString
import Derived.ChangeOld
import Derived.SliceStrings
import Derived.Deep.Grids
namespace Go.Proofs.Qxb6604061a
open Go.ChangeShapes Go.WideShapes Go.ChangeAt Go.RowKit

/-- What the walks are told of a slice that came in. -/
def SR (w : World) (a : Option Addr) (len : Nat) (f : Nat → Value) : Prop := VRow (· < w.heap.size) w a len f ∧ (a = none → len = 0) ∧ len ≤ maxLen

theorem cell_plain {w : World} {x : Addr} {v u : Value} {i : Nat} (h0 : w.cell? (x.add 0) = some u) (hc : w.cell? (x.add i) = some v) : ∃ b off, b < w.heap.size ∧ x = ⟨b, off, none⟩ ∧ w.cell? ⟨b, off + i, none⟩ = some v := by
  have hs := World.cell?_spot h0
  obtain ⟨b, off, spot⟩ := x
  have hs' : spot = none := by simpa [Addr.add] using hs
  subst hs'
  rw [add_plain] at hc
  refine ⟨b, off, ?_, rfl, hc⟩
  refine Classical.byContradiction fun hn => ?_
  simp [World.cell?, Array.getElem?_eq_none (Nat.le_of_not_lt hn)] at hc

theorem sr_nil (w : World) (f : Nat → Value) : SR w none 0 f := ⟨fun i hi => absurd hi (by omega), fun _ => rfl, Nat.zero_le _⟩

theorem sr_some {w : World} {x : Addr} {len cap : Nat} {f : Nat → Value} (h1 : len ≤ cap) (h2 : cap ≤ maxLen) (hc : ∀ i, i < len → w.cell? (x.add i) = some (f i)) : SR w (some x) len f := by
  refine ⟨fun i hi => ?_, (fun e => by cases e), Nat.le_trans h1 h2⟩
  obtain ⟨b, off, g1, g2, g3⟩ := cell_plain (hc 0 (by omega)) (hc i hi)
  exact ⟨b, off, g1, by rw [g2], g3⟩

section
variable {H : Type} {enc : TypeId × Value → H} {W : World} {fuel : Nat} {cs : List Value} {x : DataW H × List MemPlace} {a : Option Addr} {len cap : Nat}

theorem isS (hf : DataW.trod enc Try.prog W 0 (fun _ => true) true fuel 22 cs = some x) (hcs : cs = [.slice a len cap]) : ∃ z : Nat → ByteArray, SR W a len (sv z) := by
  subst hcs
  rcases open_strings Try.underlying22 Try.underlying9 (by kernel_rfl) hf with ⟨e, _⟩ | ⟨y, l, c, zs, e, _, hl, hm, hz, _, hcell, _⟩
  · simp at e
    obtain ⟨rfl, rfl, rfl⟩ := e
    exact ⟨fun _ => ByteArray.empty, sr_nil _ _⟩
  · simp at e
    obtain ⟨rfl, rfl, rfl⟩ := e
    have hz' : zs.length = cap := by simpa using hz
    exact ⟨fun i => zs.getD i ByteArray.empty, sr_some hl hm (fun i hi => hcell i (by omega))⟩

theorem isB (hf : DataW.trod enc Try.prog W 0 (fun _ => true) true fuel 23 cs = some x) (hcs : cs = [.slice a len cap]) : ∃ z : Nat → Bool, SR W a len (bv z) := by
  subst hcs
  rcases Go.Deep.open_bools Try.underlying23 Try.underlying4 (by kernel_rfl) hf with ⟨e, _⟩ | ⟨y, l, c, B, e, _, hl, hm, _, hcell⟩
  · simp at e
    obtain ⟨rfl, rfl, rfl⟩ := e
    exact ⟨fun _ => false, sr_nil _ _⟩
  · simp at e
    obtain ⟨rfl, rfl, rfl⟩ := e
    exact ⟨B, sr_some hl hm (fun i hi => hcell i (by omega))⟩

theorem isI (hf : DataW.trod enc Try.prog W 0 (fun _ => true) true fuel 24 cs = some x) (hcs : cs = [.slice a len cap]) : ∃ z : Nat → Int, SR W a len (iv z) ∧ ∀ i, i < len → -2147483648 ≤ z i ∧ z i ≤ 2147483647 := by
  subst hcs
  rcases open_ints Try.underlying24 Try.underlying21 (by kernel_rfl) hf with ⟨e, _⟩ | ⟨y, l, c, zs, e, _, hl, hm, hz, _, hcell, hwz⟩
  · simp at e
    obtain ⟨rfl, rfl, rfl⟩ := e
    exact ⟨fun _ => 0, sr_nil _ _, fun i hi => absurd hi (by omega)⟩
  · simp at e
    obtain ⟨rfl, rfl, rfl⟩ := e
    have hz' : zs.length = cap := by simpa using hz
    refine ⟨fun i => zs.getD i 0, sr_some hl hm (fun i hi => hcell i (by omega)), fun i hi => ?_⟩
    have hw := hwz (zs.getD i 0) (by
      have : i < zs.length := by omega
      simp [List.getD, this])
    exact bounds_i32 hw
end

end Go.Proofs.Qxb6604061a
