import Derived.Test.Qxb6600523aCopy
import Derived.Test.Qxb6600523aDefs
import Derived.BigQuiet
import Derived.Deep.QuietTactic
namespace Go.Proofs.Qxb6600523a
open Go.RowKit

theorem Row.pos {k : IntKind} {w : World} {a : Option Addr} {n : Nat} {z : Nat → Int} (h : Row k w a n z) (hn : 0 < n) :
    ∃ b off, b < w.heap.size ∧ a = some ⟨b, off, none⟩ ∧ ∀ i, i < n → w.cell? ⟨b, off + i, none⟩ = some (.int k (z i)) := by
  obtain ⟨b, off, h1, h2, h3⟩ := h 0 hn
  refine ⟨b, off, h1, h2, fun i hi => ?_⟩
  obtain ⟨b', off', _, h5, h6⟩ := h i hi
  rw [h2] at h5
  simp only [Option.some.injEq, Addr.mk.injEq] at h5
  obtain ⟨rfl, rfl, _⟩ := h5
  exact h6

def SimplePost (n m : Nat) (z p : Nat → Int) (w : World) (e : Ending) (w' : World) : Prop :=
  ∃ (r : Bool) (q : Nat), e = .returned (.bool r) ∧ w' = w.drewN q ∧ (r = true → SGz n m z p)

theorem simple_false (n m : Nat) (z p : Nat → Int) (w : World) (q : Nat) : SimplePost n m z p w (.returned (.bool false)) (w.drewN q) := ⟨false, q, rfl, rfl, by simp⟩

set_option maxRecDepth 10000 in
set_option maxHeartbeats 1000000 in
theorem simple_any (aF aP : Option Addr) (n m cF cP : Nat) (z p : Nat → Int) (w : World) (hn : n ≤ 100000) (hm : m ≤ 100000) (hF : Row .i64 w aF n z) (hP : Row .i32 w aP m p)
    (hzb : ∀ i, i < n → (-9223372036854775808 ≤ z i ∧ z i ≤ 9223372036854775807)) (hpb : ∀ i, i < m → (-2147483648 ≤ p i ∧ p i ≤ 2147483647)) :
    Calls Try.prog 16 #[.slice aF n cF, .slice aP m cP] w (SimplePost (n - 1) m z p w) := by
  by_cases hn2 : n < 2
  · go_enter Try.func16, Try.ntmps16
    go_wp2
    go_ret
    exact simple_false _ _ _ _ w 0
  obtain ⟨l, rfl⟩ : ∃ l, n = l + 1 := ⟨n - 1, by omega⟩
  obtain ⟨b, off, hb, rfl, hc⟩ := hF.pos (by omega)
  have c0 : w.cell? ⟨b, off, none⟩ = some (.int .i64 (z 0)) := by simpa using hc 0 (by omega)
  have cn := hc l (by omega)
  by_cases h0 : z 0 = 0
  rotate_left
  · have h0' : (z 0 != 0) = true := by simpa using h0
    go_enter Try.func16, Try.ntmps16
    go_wp2
    go_ret
    exact simple_false _ _ _ _ w 0
  by_cases hnm : z l = m
  rotate_left
  · have h0' : (z l != m) = true := by simpa using hnm
    go_enter Try.func16, Try.ntmps16
    go_wp2
    go_ret
    exact simple_false _ _ _ _ w 0
  have H0 : Hid (z 0 = 0) := h0
  have HN : Hid (z l = m) := hnm
  have HC : Hid (∀ i, i < l + 1 → w.cell? ⟨b, off + i, none⟩ = some (.int .i64 (z i))) := hc
  have HB : Hid (∀ i, i < m → (-2147483648 ≤ p i ∧ p i ≤ 2147483647)) := hpb
  rw [h0] at c0
  rw [hnm] at cn
  clear h0 hnm hc hpb hzb hF
  go_enter Try.func16, Try.ntmps16
  go_wp2
  go_loopw [6] (fun i wr => ∃ (k q : Nat), k ≤ l ∧ i = .int .i64 k ∧ wr = w.drewN q ∧ Hid (∀ j, j < k → z j ≤ z (j + 1))) (fun i _ => l - (intOf i).toNat)
  case atStart => exact ⟨0, 0, Nat.zero_le _, rfl, rfl, fun j hj => absurd hj (by omega)⟩
  case round =>
    obtain ⟨k, q, hk, rfl, rfl, hmono⟩ := hrel
    by_cases hlt : k < l
    · have ck := HC.out k (by omega)
      have ck1 : w.cell? ⟨b, off + (k + 1), none⟩ = some (.int .i64 (z (k + 1))) := HC.out (k + 1) (by omega)
      have e1 : (k : Int) + 1 < ((l + 1 : Nat) : Int) := by omega
      go_wp2
      go_quiet (fail)
      go_wp2
      · go_ret
        rw [World.drewN_drewN]
        exact simple_false _ _ _ _ w _
      · go_roundw
        case rel => exact ⟨k + 1, _, by omega, by go_num, rfl, fun j hj => by
          by_cases e : j = k
          · subst e; omega
          · exact hmono.out j (by omega)⟩
        case measure => simp [intOf]; omega
    · go_wp2
      have hkl : k = l := by omega
      subst hkl
      have HM := mono_le hmono.out
      have hz0 := H0.out
      have hzl := HN.out
      have HZ : Hid (∀ i, i ≤ k → 0 ≤ z i ∧ z i ≤ m) := fun i hi => ⟨by have := HM i 0 (by omega) hi; omega, by have := HM k i hi (Nat.le_refl _); omega⟩
      clear HM hz0 hzl
      go_loop [7] (fun s => ∃ u : Nat, u ≤ k ∧ s = .int .i64 u ∧ Hid (∀ v j : Nat, v < u → z v ≤ j → (j : Int) < z (v + 1) → KOK k z p v j)) (fun s => k - (intOf s).toNat)
      case atStart => exact ⟨0, Nat.zero_le _, rfl, fun v j hv => absurd hv (by omega)⟩
      case round =>
        obtain ⟨u, hu, rfl, hdone⟩ := hrel
        by_cases hul : u < k
        · have cu := HC.out u (by omega)
          have cu1 : w.cell? ⟨b, off + (u + 1), none⟩ = some (.int .i64 (z (u + 1))) := HC.out (u + 1) (by omega)
          have zu := HZ.out u (by omega)
          have zu1 := HZ.out (u + 1) (by omega)
          have zm := hmono.out u hul
          go_wp2
          go_loop [8] (fun s => ∃ j : Nat, z u ≤ j ∧ (j : Int) ≤ z (u + 1) ∧ s = .int .i64 j ∧ Hid (∀ i : Nat, z u ≤ i → i < j → KOK k z p u i)) (fun s => (z (u + 1) - intOf s).toNat)
          case atStart => exact ⟨(z u).toNat, by omega, by omega, by rw [Int.toNat_of_nonneg zu.1], fun i h1 h2 => absurd h2 (by omega)⟩
          case round =>
            obtain ⟨j, hj1, hj2, rfl, hports⟩ := hrel
            by_cases hj : (j : Int) < z (u + 1)
            · obtain ⟨b2, off2, hb2, rfl, cj⟩ := hP j (by omega)
              have pj := HB.out j (by omega)
              by_cases hv0 : p j < 0
              · go_wp2
                go_ret
                exact simple_false _ _ _ _ w _
              by_cases hv1 : (k : Int) ≤ p j
              · go_wp2
                go_ret
                exact simple_false _ _ _ _ w _
              by_cases hv2 : p j = u
              · have hv2' : (p j == u) = true := by simpa using hv2
                go_wp2
                go_ret
                exact simple_false _ _ _ _ w _
              obtain ⟨v, hv⟩ : ∃ v : Nat, p j = v := ⟨(p j).toNat, by omega⟩
              have hvk : v < k := by omega
              have hvu : v ≠ u := by omega
              have HV : Hid (p j = v) := hv
              have hv2' : ((v : Int) == u) = false := by simp only [beq_eq_false_iff_ne]; omega
              rw [hv] at cj
              clear hv hv0 hv1 hv2 pj
              go_wp2
              go_loop [10] (fun s => ∃ i : Nat, z u ≤ i ∧ i ≤ j ∧ s = .int .i64 i ∧ Hid (∀ k2 : Nat, z u ≤ k2 → k2 < i → p k2 ≠ v)) (fun s => (j - intOf s).toNat)
              case atStart => exact ⟨(z u).toNat, by omega, by omega, by rw [Int.toNat_of_nonneg zu.1], fun i h1 h2 => absurd h2 (by omega)⟩
              case round =>
                obtain ⟨i, hi1, hi2, rfl, hno⟩ := hrel
                by_cases hi : i < j
                · obtain ⟨b3, off3, hb3, e3, ci⟩ := hP i (by omega)
                  simp only [Option.some.injEq, Addr.mk.injEq] at e3
                  obtain ⟨rfl, rfl, _⟩ := e3
                  have pi := HB.out i (by omega)
                  by_cases he : p i = v
                  · have he' : (p i == v) = true := by simpa using he
                    clear he
                    go_wp2
                    go_ret
                    exact simple_false _ _ _ _ w _
                  · have he' : (p i == v) = false := by simpa using he
                    clear he
                    go_wp2
                    go_round
                    case rel => exact ⟨i + 1, by omega, by omega, by go_num, fun k2 h1 h2 => by
                      by_cases e : k2 = i
                      · subst e; simpa using he'
                      · exact hno.out k2 h1 (by omega)⟩
                    case measure => simp [intOf]; omega
                · have hij : i = j := by omega
                  subst hij
                  have cv := HC.out v (by omega)
                  have cv1 : w.cell? ⟨b, off + (v + 1), none⟩ = some (.int .i64 (z (v + 1))) := HC.out (v + 1) (by omega)
                  have zv := HZ.out v (by omega)
                  have zv1 := HZ.out (v + 1) (by omega)
                  go_wp2
                  go_loop [11, 12] (fun t s => ∃ (i3 : Nat) (bk : Bool), z v ≤ i3 ∧ ((i3 : Int) ≤ z (v + 1) ∨ (i3 : Int) ≤ z v) ∧ s = .int .i64 i3 ∧ t = .bool bk ∧ Hid (bk = true → ∃ k3 : Nat, z v ≤ k3 ∧ (k3 : Int) < z (v + 1) ∧ p k3 = u)) (fun _ s => (z (v + 1) - intOf s).toNat)
                  case atStart => exact ⟨(z v).toNat, false, by omega, by omega, by rw [Int.toNat_of_nonneg zv.1], rfl, fun h => by cases h⟩
                  case round =>
                    obtain ⟨i3, bk, hi3, hi4, rfl, rfl, hbk⟩ := hrel
                    by_cases hi : (i3 : Int) < z (v + 1)
                    · obtain ⟨b3, off3, hb3, e3, ci⟩ := hP i3 (by omega)
                      simp only [Option.some.injEq, Addr.mk.injEq] at e3
                      obtain ⟨rfl, rfl, _⟩ := e3
                      have pi := HB.out i3 (by omega)
                      by_cases he : p i3 = u
                      · have he' : (p i3 == u) = true := by simpa using he
                        have HE : Hid (p i3 = u) := he
                        clear he
                        go_wp2
                        go_round
                        case rel => exact ⟨i3 + 1, true, by omega, by omega, by go_num, rfl, fun _ => ⟨i3, hi3, hi, HE.out⟩⟩
                        case measure => simp [intOf]; omega
                      · have he' : (p i3 == u) = false := by simpa using he
                        clear he
                        go_wp2
                        go_round
                        case rel => exact ⟨i3 + 1, bk, by omega, by omega, by go_num, rfl, hbk⟩
                        case measure => simp [intOf]; omega
                    · cases bk with
                      | false =>
                        go_wp2
                        go_ret
                        exact simple_false _ _ _ _ w _
                      | true =>
                        go_wp2
                        go_round
                        case rel => exact ⟨i + 1, by omega, by omega, by go_num, fun x h1 h2 => by
                          by_cases e : x = i
                          · subst e
                            have hpv := HV.out
                            refine ⟨by omega, by omega, by omega, fun k2 a1 a2 => by rw [hpv]; exact hno.out k2 a1 a2, ?_⟩
                            rw [hpv, Int.toNat_natCast]
                            exact hbk.out rfl
                          · exact hports.out x h1 (by omega)⟩
                        case measure => simp [intOf]; omega
            · go_wp2
              go_round
              case rel => exact ⟨u + 1, by omega, by go_num, fun v i hv h1 h2 => by
                by_cases e : v = u
                · subst e; exact hports.out i h1 (by omega)
                · exact hdone.out v i (by omega) h1 h2⟩
              case measure => simp [intOf]; omega
        · go_wp2
          go_ret
          have hku : u = k := by omega
          subst hku
          exact ⟨true, _, rfl, rfl, fun _ => ⟨by omega, H0.out, HN.out, hmono.out, fun v j => hdone.out v j⟩⟩

end Go.Proofs.Qxb6600523a
