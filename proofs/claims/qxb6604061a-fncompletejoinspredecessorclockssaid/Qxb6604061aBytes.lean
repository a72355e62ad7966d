import Derived.Test.Qxb6604061aMem
namespace Go.Proofs.Qxb6604061a
open Go.RowKit

def BoolPost (w : World) (e : Ending) (w' : World) : Prop := ∃ x : Bool, e = .returned (.bool x) ∧ w' = w

set_option maxRecDepth 10000 in
set_option maxHeartbeats 4000000 in
theorem bytes15 (B : Nat) (a ao a0 a1 a2 a3 : Option Addr) (n c no co n0 c0 n1 c1 n2 c2 n3 c3 : Nat) (C : Int) (z : Nat → ByteArray) (w : World) (hn : n ≤ maxLen) (hr : VRow (· < B) w a n (sv z)) :
    Calls Try.prog 15 #[.slice a n c, .slice ao no co, .int .i64 C, .slice a0 n0 c0, .slice a1 n1 c1, .slice a2 n2 c2, .slice a3 n3 c3] w (BoolPost w) := by
  have HR : Hid (VRow (· < B) w a n (sv z)) := hr
  clear hr
  unfold maxLen at *
  go_enter Try.func15, Try.ntmps15
  go_wp2
  · go_ret
    exact ⟨_, rfl, rfl⟩
  · go_loop [15, 16] (fun t i => ∃ (x : Int) (k : Nat), k ≤ n ∧ t = .int .i64 x ∧ i = .int .i64 k) (fun _ i => n - (intOf i).toNat)
    case atStart => exact ⟨_, 0, Nat.zero_le _, rfl, rfl⟩
    case round =>
      obtain ⟨x, k, hk, rfl, rfl⟩ := hrel
      by_cases hlt : k < n
      · obtain ⟨b, off, hb, rfl, hc⟩ := HR.out k hlt
        simp only [sv] at hc
        go_wp2
        · go_ret
          exact ⟨_, rfl, rfl⟩
        · go_ret
          exact ⟨_, rfl, rfl⟩
        · go_round
          case rel => exact ⟨_, k + 1, by omega, rfl, by go_num⟩
          case measure => simp [intOf]; omega
      · go_wp2
        all_goals
          go_ret
          exact ⟨_, rfl, rfl⟩

set_option maxRecDepth 10000 in
set_option maxHeartbeats 4000000 in
theorem bytes5 (B : Nat) (a ao a0 a1 a2 a3 a4 a5 a6 : Option Addr) (n c no co n0 c0 n1 c1 n2 c2 n3 c3 n4 c4 n5 c5 n6 c6 : Nat) (C : Int) (z : Nat → ByteArray) (w : World) (hn : n ≤ maxLen) (hr : VRow (· < B) w a n (sv z)) :
    Calls Try.prog 5 #[.slice a n c, .slice ao no co, .int .i64 C, .slice a0 n0 c0, .slice a1 n1 c1, .slice a2 n2 c2, .slice a3 n3 c3, .slice a4 n4 c4, .slice a5 n5 c5, .slice a6 n6 c6] w (BoolPost w) := by
  have HR : Hid (VRow (· < B) w a n (sv z)) := hr
  clear hr
  unfold maxLen at *
  go_enter Try.func5, Try.ntmps5
  go_wp2
  · go_ret
    exact ⟨_, rfl, rfl⟩
  · go_loop [21, 22] (fun t i => ∃ (x : Int) (k : Nat), k ≤ n ∧ t = .int .i64 x ∧ i = .int .i64 k) (fun _ i => n - (intOf i).toNat)
    case atStart => exact ⟨_, 0, Nat.zero_le _, rfl, rfl⟩
    case round =>
      obtain ⟨x, k, hk, rfl, rfl⟩ := hrel
      by_cases hlt : k < n
      · obtain ⟨b, off, hb, rfl, hc⟩ := HR.out k hlt
        simp only [sv] at hc
        go_wp2
        · go_ret
          exact ⟨_, rfl, rfl⟩
        · go_ret
          exact ⟨_, rfl, rfl⟩
        · go_round
          case rel => exact ⟨_, k + 1, by omega, rfl, by go_num⟩
          case measure => simp [intOf]; omega
      · go_wp2
        all_goals
          go_ret
          exact ⟨_, rfl, rfl⟩

def SizePost (R : Prop) (w : World) (e : Ending) (w' : World) : Prop := ∃ x : Int, e = .returned (.int .i64 x) ∧ w' = w ∧ (x ≤ 1048576 → R)

set_option maxRecDepth 10000 in
set_option maxHeartbeats 4000000 in
theorem size6 (B : Nat) (a ao a0 a1 a2 a3 a4 a5 a6 : Option Addr) (n c no co n0 c0 n1 c1 n2 c2 n3 c3 n4 c4 n5 c5 n6 c6 : Nat) (z : Nat → ByteArray) (w : World) (hn : n ≤ maxLen) (hno : no ≤ maxLen) (h0 : n0 ≤ maxLen) (h1 : n1 ≤ maxLen) (h2 : n2 ≤ maxLen) (h3 : n3 ≤ maxLen) (h4 : n4 ≤ maxLen) (h5 : n5 ≤ maxLen) (h6 : n6 ≤ maxLen) (hr : VRow (· < B) w a n (sv z)) (R : Prop) (hR : n ≤ 262144 ∧ no ≤ 262144 ∧ n0 ≤ 262144 ∧ n1 ≤ 262144 ∧ n2 ≤ 262144 ∧ n3 ≤ 262144 ∧ n4 ≤ 262144 ∧ n5 ≤ 262144 ∧ n6 ≤ 262144 → R) :
    Calls Try.prog 6 #[.slice a n c, .slice ao no co, .slice a0 n0 c0, .slice a1 n1 c1, .slice a2 n2 c2, .slice a3 n3 c3, .slice a4 n4 c4, .slice a5 n5 c5, .slice a6 n6 c6] w (SizePost R w) := by
  have HR : Hid (VRow (· < B) w a n (sv z)) := hr
  have HR9 : Hid (n ≤ 262144 ∧ no ≤ 262144 ∧ n0 ≤ 262144 ∧ n1 ≤ 262144 ∧ n2 ≤ 262144 ∧ n3 ≤ 262144 ∧ n4 ≤ 262144 ∧ n5 ≤ 262144 ∧ n6 ≤ 262144 → R) := hR
  clear hr hR
  unfold maxLen at *
  go_enter Try.func6, Try.ntmps6
  by_cases b0 : 262144 < n
  · go_wp2
    go_ret
    exact ⟨1048577, rfl, rfl, fun h => absurd h (by omega)⟩
  have d0 : decide ((262144 : Int) < (n : Int)) = false := decide_eq_false (by omega)
  have e0 : n ≤ 262144 := by omega
  clear b0
  by_cases b1 : 262144 < no
  · go_wp2
    go_ret
    exact ⟨1048577, rfl, rfl, fun h => absurd h (by omega)⟩
  have d1 : decide ((262144 : Int) < (no : Int)) = false := decide_eq_false (by omega)
  have e1 : no ≤ 262144 := by omega
  clear b1
  by_cases b2 : 262144 < n0
  · go_wp2
    go_ret
    exact ⟨1048577, rfl, rfl, fun h => absurd h (by omega)⟩
  have d2 : decide ((262144 : Int) < (n0 : Int)) = false := decide_eq_false (by omega)
  have e2 : n0 ≤ 262144 := by omega
  clear b2
  by_cases b3 : 262144 < n1
  · go_wp2
    go_ret
    exact ⟨1048577, rfl, rfl, fun h => absurd h (by omega)⟩
  have d3 : decide ((262144 : Int) < (n1 : Int)) = false := decide_eq_false (by omega)
  have e3 : n1 ≤ 262144 := by omega
  clear b3
  by_cases b4 : 262144 < n2
  · go_wp2
    go_ret
    exact ⟨1048577, rfl, rfl, fun h => absurd h (by omega)⟩
  have d4 : decide ((262144 : Int) < (n2 : Int)) = false := decide_eq_false (by omega)
  have e4 : n2 ≤ 262144 := by omega
  clear b4
  by_cases b5 : 262144 < n3
  · go_wp2
    go_ret
    exact ⟨1048577, rfl, rfl, fun h => absurd h (by omega)⟩
  have d5 : decide ((262144 : Int) < (n3 : Int)) = false := decide_eq_false (by omega)
  have e5 : n3 ≤ 262144 := by omega
  clear b5
  by_cases b6 : 262144 < n4
  · go_wp2
    go_ret
    exact ⟨1048577, rfl, rfl, fun h => absurd h (by omega)⟩
  have d6 : decide ((262144 : Int) < (n4 : Int)) = false := decide_eq_false (by omega)
  have e6 : n4 ≤ 262144 := by omega
  clear b6
  by_cases b7 : 262144 < n5
  · go_wp2
    go_ret
    exact ⟨1048577, rfl, rfl, fun h => absurd h (by omega)⟩
  have d7 : decide ((262144 : Int) < (n5 : Int)) = false := decide_eq_false (by omega)
  have e7 : n5 ≤ 262144 := by omega
  clear b7
  by_cases b8 : 262144 < n6
  · go_wp2
    go_ret
    exact ⟨1048577, rfl, rfl, fun h => absurd h (by omega)⟩
  have d8 : decide ((262144 : Int) < (n6 : Int)) = false := decide_eq_false (by omega)
  have e8 : n6 ≤ 262144 := by omega
  clear b8
  have HF : Hid R := HR9.out ⟨e0, e1, e2, e3, e4, e5, e6, e7, e8⟩
  clear hn hno h0 h1 h2 h3 h4 h5 h6
  obtain ⟨t, ht⟩ : ∃ t, t = 16 * n + no + 4 * (n0 + n1 + n2 + n3 + n4 + n5 + n6) := ⟨_, rfl⟩
  by_cases hb : 1048576 < t
  · have db : decide ((1048576 : Int) < 16 * (n : Int) + (no : Int) + 4 * ((n0 : Int) + (n1 : Int) + (n2 : Int) + (n3 : Int) + (n4 : Int) + (n5 : Int) + (n6 : Int))) = true := decide_eq_true (by omega)
    go_wp2
    go_ret
    exact ⟨_, rfl, rfl, fun _ => HF.out⟩
  have db : decide ((1048576 : Int) < 16 * (n : Int) + (no : Int) + 4 * ((n0 : Int) + (n1 : Int) + (n2 : Int) + (n3 : Int) + (n4 : Int) + (n5 : Int) + (n6 : Int))) = false := decide_eq_false (by omega)
  have HT : Hid (t = 16 * n + no + 4 * (n0 + n1 + n2 + n3 + n4 + n5 + n6)) := ht
  clear ht
  go_wp2
  clear db d0 d1 d2 d3 d4 d5 d6 d7 d8 e1 e2 e3 e4 e5 e6 e7 e8
  go_loop [19, 20] (fun t i => ∃ (x k : Nat), k ≤ n ∧ x ≤ 1048576 ∧ t = .int .i64 (x : Int) ∧ i = .int .i64 k) (fun _ i => n - (intOf i).toNat)
  case atStart => exact ⟨t, 0, Nat.zero_le _, by omega, by rw [HT.out]; go_num, rfl⟩
  case round =>
    clear hb
    obtain ⟨x, k, hk, hx, rfl, rfl⟩ := hrel
    by_cases hlt : k < n
    · obtain ⟨b, off, hb, rfl, hc⟩ := HR.out k hlt
      simp only [sv] at hc
      obtain ⟨s, hs⟩ : ∃ s, s = (z k).size := ⟨_, rfl⟩
      by_cases hs1 : 1048576 < s
      · go_wp2
        · go_ret
          exact ⟨1048577, rfl, rfl, fun _ => HF.out⟩
        all_goals (exfalso; omega)
      · by_cases hs2 : 1048576 < x + s
        · go_wp2
          all_goals first | (exfalso; omega) | skip
          go_ret
          exact ⟨_, rfl, rfl, fun _ => HF.out⟩
        · go_wp2
          all_goals first | (exfalso; omega) | skip
          go_round
          case rel => exact ⟨x + s, k + 1, by omega, by omega, by rw [hs]; go_num, by go_num⟩
          case measure => simp [intOf]; omega
    · go_wp2
      go_ret
      exact ⟨x, rfl, rfl, fun _ => HF.out⟩

end Go.Proofs.Qxb6604061a
