import Derived.Test.Qxb6600609aCopy
namespace Go.Proofs.Qxb6600609a
open Go.RowKit Go.SMaps

def SizePost (R : Prop) (w : World) (e : Ending) (w' : World) : Prop := ∃ x : Int, e = .returned (.int .i64 x) ∧ w' = w ∧ 0 ≤ x ∧ x ≤ 1048577 ∧ (x ≤ 1048576 → R)

set_option maxHeartbeats 1000000 in
theorem sizeN (B : Nat) (a : Option Addr) (n c : Nat) (z : Nat → ByteArray) (w : World) (hn : n ≤ maxLen) (hr : SRow B w a n z) :
    Calls Try.prog 6 #[.slice a n c] w (SizePost (n ≤ 65536) w) := by
  have HR : Hid (SRow B w a n z) := hr
  clear hr
  unfold maxLen at hn
  go_enter Try.func6, Try.ntmps6
  by_cases hbig : 1048576 < n
  · go_wp2
    go_ret
    exact ⟨1048577, rfl, rfl, by omega, by omega, fun h => absurd h (by omega)⟩
  · have hn2 : n ≤ 1048576 := by omega
    have d0 : decide ((1048576 : Int) < (n : Int)) = false := decide_eq_false (by omega)
    clear hn hbig
    go_wp2
    go_loop [3, 4] (fun t i => ∃ (x k : Nat), k ≤ n ∧ x ≤ 16777216 ∧ 16 * n ≤ x ∧ t = .int .i64 (x : Int) ∧ i = .int .i64 k) (fun _ i => n - (intOf i).toNat)
    case atStart => exact ⟨16 * n, 0, Nat.zero_le _, by omega, by omega, by go_num, rfl⟩
    case round =>
      clear d0
      obtain ⟨x, k, hk, hx, hx2, rfl, rfl⟩ := hrel
      by_cases hlt : k < n
      · have dk : decide ((k : Int) < (n : Int)) = true := decide_eq_true (by omega)
        obtain ⟨b, off, hb, ea, hc⟩ := HR.out k hlt
        subst ea
        obtain ⟨s, hs⟩ : ∃ s, s = (z k).size := ⟨_, rfl⟩
        by_cases hs1 : 1048576 < s
        · go_wp2
          · go_ret
            exact ⟨1048577, rfl, rfl, by omega, by omega, fun h => absurd h (by omega)⟩
          all_goals (exfalso; omega)
        · by_cases hs2 : 1048576 < x + s
          · go_wp2
            all_goals first | (exfalso; omega) | skip
            go_ret
            exact ⟨1048577, rfl, rfl, by omega, by omega, fun h => absurd h (by omega)⟩
          · go_wp2
            all_goals first | (exfalso; omega) | skip
            go_round
            case rel => exact ⟨x + s, k + 1, by omega, by omega, by omega, by rw [hs]; go_num, by go_num⟩
            case measure => simp [intOf]; omega
      · have dk : decide ((k : Int) < (n : Int)) = false := decide_eq_false (by omega)
        by_cases hx3 : 1048576 < x
        · have dx : decide ((1048576 : Int) < (x : Int)) = true := decide_eq_true (by omega)
          go_wp2
          go_ret
          exact ⟨1048577, rfl, rfl, by omega, by omega, fun h => absurd h (by omega)⟩
        · have dx : decide ((1048576 : Int) < (x : Int)) = false := decide_eq_false (by omega)
          go_wp2
          go_ret
          exact ⟨x, rfl, rfl, by omega, by omega, fun h => by omega⟩

set_option maxHeartbeats 1000000 in
theorem sizeP (B : Nat) (a : Option Addr) (c : Nat) (Ps : List (List ByteArray)) (w : World) (hn : Ps.length ≤ maxLen) (hr : PRow B w a Ps) :
    Calls Try.prog 7 #[.slice a Ps.length c] w (SizePost (∀ i, (Ps.getD i []).length ≤ 65536) w) := by
  have HR : Hid (PRow B w a Ps) := hr
  clear hr
  unfold maxLen at hn
  obtain ⟨n, en⟩ : ∃ n, n = Ps.length := ⟨_, rfl⟩
  rw [← en]
  rw [← en] at hn
  have HN : Hid (n = Ps.length) := en
  clear en
  go_enter Try.func7, Try.ntmps7
  by_cases hbig : 1048576 < n
  · go_wp2
    go_ret
    exact ⟨1048577, rfl, rfl, by omega, by omega, fun h => absurd h (by omega)⟩
  · have hn2 : n ≤ 1048576 := by omega
    have d0 : decide ((1048576 : Int) < (n : Int)) = false := decide_eq_false (by omega)
    clear hn hbig
    go_wp2
    go_loop [3, 4] (fun t i => ∃ (x k : Nat), k ≤ n ∧ x ≤ 33554432 ∧ t = .int .i64 (x : Int) ∧ i = .int .i64 k ∧ Hid (∀ j, j < k → (Ps.getD j []).length ≤ 65536)) (fun _ i => n - (intOf i).toNat)
    case atStart => exact ⟨24 * n, 0, Nat.zero_le _, by omega, by go_num, rfl, fun j hj => absurd hj (by omega)⟩
    case round =>
      clear d0
      obtain ⟨x, k, hk, hx, rfl, rfl, hI⟩ := hrel
      by_cases hlt : k < n
      · have dk : decide ((k : Int) < (n : Int)) = true := decide_eq_true (by omega)
        obtain ⟨b, off, ai, ci, hb, ea, hc, h1, h2, h3⟩ := HR.out k (by rw [← HN.out]; exact hlt)
        subst ea
        obtain ⟨lk, hlk⟩ : ∃ lk, lk = (Ps.getD k []).length := ⟨_, rfl⟩
        rw [← hlk] at hc h2 h3
        have HLK : Hid (lk = (Ps.getD k []).length) := hlk
        have HL : Hid (lk ≤ maxLen) := h2
        have HS : Hid (SRow B w ai lk (fun j => (Ps.getD k []).getD j ByteArray.empty)) := h3
        clear h1 h2 h3 hlk
        go_wp2_with fail
        clear dk
        refine (sizeN B ai lk ci _ _ HL.out HS.out).mono ?_
        rintro e w1 ⟨s, rfl, rfl, hs0, hs1, hs2⟩
        obtain ⟨s, rfl⟩ := Int.eq_ofNat_of_zero_le hs0
        have HS2 : Hid ((s : Int) ≤ 1048576 → lk ≤ 65536) := hs2
        have hs1' : s ≤ 1048577 := by omega
        clear hs2 hs0 hs1
        by_cases hxs : 1048576 < x + s
        · have dx : decide ((1048576 : Int) < (x : Int) + (s : Int)) = true := decide_eq_true (by omega)
          go_wp2
          go_ret
          exact ⟨1048577, rfl, rfl, by omega, by omega, fun h => absurd h (by omega)⟩
        · have dx : decide ((1048576 : Int) < (x : Int) + (s : Int)) = false := decide_eq_false (by omega)
          go_wp2
          go_round
          case rel => exact ⟨x + s, k + 1, by omega, by omega, by go_num, by go_num, fun j hj => by
            by_cases e : j = k
            · subst e; rw [← HLK.out]; exact HS2.out (by omega)
            · exact hI.out j (by omega)⟩
          case measure => simp [intOf]; omega
      · have dk : decide ((k : Int) < (n : Int)) = false := decide_eq_false (by omega)
        by_cases hx3 : 1048576 < x
        · have dx : decide ((1048576 : Int) < (x : Int)) = true := decide_eq_true (by omega)
          go_wp2
          go_ret
          exact ⟨1048577, rfl, rfl, by omega, by omega, fun h => absurd h (by omega)⟩
        · have dx : decide ((1048576 : Int) < (x : Int)) = false := decide_eq_false (by omega)
          go_wp2
          go_ret
          refine ⟨x, rfl, rfl, by omega, by omega, fun h i => ?_⟩
          by_cases hi : i < n
          · exact hI.out i (by omega)
          · have hi' : Ps.length ≤ i := by have := HN.out; omega
            simp [List.getElem?_eq_none hi']

end Go.Proofs.Qxb6600609a
