import Derived.Test.Qxb6600609aCopy
namespace Go.Proofs.Qxb6600609a
open Go.RowKit Go.SMaps

def BoolPost (w : World) (e : Ending) (w' : World) : Prop := ∃ x : Bool, e = .returned (.bool x) ∧ w' = w

set_option maxRecDepth 10000 in
set_option maxHeartbeats 4000000 in
theorem bytes14 (B : Nat) (r : Bool) (a1 a2 a3 : Option Addr) (n c1 c2 c3 : Nat) (z : Nat → ByteArray) (Ps Qs : List (List ByteArray)) (w : World) (hn : n ≤ maxLen) (hp : Ps.length ≤ maxLen) (hq : Qs.length ≤ maxLen)
    (hr : SRow B w a1 n z) (hrp : PRow B w a2 Ps) (hrq : PRow B w a3 Qs) :
    Calls Try.prog 14 #[.bool r, .slice a1 n c1, .slice a2 Ps.length c2, .slice a3 Qs.length c3] w (BoolPost w) := by
  have HR : Hid (SRow B w a1 n z) := hr
  have HP : Hid (PRow B w a2 Ps) := hrp
  have HQ : Hid (PRow B w a3 Qs) := hrq
  clear hr hrp hrq
  unfold maxLen at hn hp hq
  obtain ⟨m, em⟩ : ∃ m, m = Ps.length := ⟨_, rfl⟩
  obtain ⟨l, el⟩ : ∃ l, l = Qs.length := ⟨_, rfl⟩
  rw [← em, ← el]
  rw [← em] at hp
  rw [← el] at hq
  have HM : Hid (m = Ps.length) := em
  have HL : Hid (l = Qs.length) := el
  clear em el
  go_enter Try.func14, Try.ntmps14
  go_wp2
  · go_ret
    exact ⟨_, rfl, rfl⟩
  · go_loop [9, 10] (fun t i => ∃ (x : Int) (k : Nat), k ≤ n ∧ t = .int .i64 x ∧ i = .int .i64 k) (fun _ i => n - (intOf i).toNat)
    case atStart => exact ⟨_, 0, Nat.zero_le _, rfl, rfl⟩
    case round =>
      obtain ⟨x, k, hk, rfl, rfl⟩ := hrel
      by_cases hlt : k < n
      · obtain ⟨b, off, hb, rfl, hc⟩ := HR.out k hlt
        go_wp2
        · go_ret
          exact ⟨_, rfl, rfl⟩
        · go_ret
          exact ⟨_, rfl, rfl⟩
        · go_round
          case rel => exact ⟨_, k + 1, by omega, rfl, by go_num⟩
          case measure => simp [intOf]; omega
      · go_wp2
        · go_ret
          exact ⟨_, rfl, rfl⟩
        · go_ret
          exact ⟨_, rfl, rfl⟩
        · go_loop [9, 11] (fun t i => ∃ (x : Int) (k : Nat), k ≤ m ∧ t = .int .i64 x ∧ i = .int .i64 k) (fun _ i => m - (intOf i).toNat)
          case atStart => exact ⟨_, 0, Nat.zero_le _, rfl, rfl⟩
          case round =>
            obtain ⟨x, k, hk, rfl, rfl⟩ := hrel
            by_cases hlt : k < m
            · obtain ⟨b, off, ai, ci, hb, rfl, hc, h1, h2, h3⟩ := HP.out k (by rw [← HM.out]; exact hlt)
              obtain ⟨lk, hlk⟩ : ∃ lk, lk = (Ps.getD k []).length := ⟨_, rfl⟩
              rw [← hlk] at hc h2 h3
              have HS : Hid (SRow B w ai lk (fun j => (Ps.getD k []).getD j ByteArray.empty)) := h3
              unfold maxLen at h2
              clear h1 h3 hlk
              go_wp2
              · go_ret
                exact ⟨_, rfl, rfl⟩
              · go_ret
                exact ⟨_, rfl, rfl⟩
              · go_loop [9, 12] (fun t i => ∃ (x : Int) (k : Nat), k ≤ lk ∧ t = .int .i64 x ∧ i = .int .i64 k) (fun _ i => lk - (intOf i).toNat)
                case atStart => exact ⟨_, 0, Nat.zero_le _, rfl, rfl⟩
                case round =>
                  obtain ⟨x, j, hj, rfl, rfl⟩ := hrel
                  by_cases hjl : j < lk
                  · obtain ⟨b', off', hb', rfl, hc'⟩ := HS.out j hjl
                    go_wp2
                    · go_ret
                      exact ⟨_, rfl, rfl⟩
                    · go_ret
                      exact ⟨_, rfl, rfl⟩
                    · go_round
                      case rel => exact ⟨_, j + 1, by omega, rfl, by go_num⟩
                      case measure => simp [intOf]; omega
                  · go_wp2
                    go_round
                    case rel => exact ⟨_, k + 1, by omega, rfl, by go_num⟩
                    case measure => simp [intOf]; omega
            · go_wp2
              · go_ret
                exact ⟨_, rfl, rfl⟩
              · go_ret
                exact ⟨_, rfl, rfl⟩
              · go_loop [9, 13] (fun t i => ∃ (x : Int) (k : Nat), k ≤ l ∧ t = .int .i64 x ∧ i = .int .i64 k) (fun _ i => l - (intOf i).toNat)
                case atStart => exact ⟨_, 0, Nat.zero_le _, rfl, rfl⟩
                case round =>
                  obtain ⟨x, k, hk, rfl, rfl⟩ := hrel
                  by_cases hlt : k < l
                  · obtain ⟨b, off, ai, ci, hb, rfl, hc, h1, h2, h3⟩ := HQ.out k (by rw [← HL.out]; exact hlt)
                    obtain ⟨lk, hlk⟩ : ∃ lk, lk = (Qs.getD k []).length := ⟨_, rfl⟩
                    rw [← hlk] at hc h2 h3
                    have HS : Hid (SRow B w ai lk (fun j => (Qs.getD k []).getD j ByteArray.empty)) := h3
                    unfold maxLen at h2
                    clear h1 h3 hlk
                    go_wp2
                    · go_ret
                      exact ⟨_, rfl, rfl⟩
                    · go_ret
                      exact ⟨_, rfl, rfl⟩
                    · go_loop [9, 14] (fun t i => ∃ (x : Int) (k : Nat), k ≤ lk ∧ t = .int .i64 x ∧ i = .int .i64 k) (fun _ i => lk - (intOf i).toNat)
                      case atStart => exact ⟨_, 0, Nat.zero_le _, rfl, rfl⟩
                      case round =>
                        obtain ⟨x, j, hj, rfl, rfl⟩ := hrel
                        by_cases hjl : j < lk
                        · obtain ⟨b', off', hb', rfl, hc'⟩ := HS.out j hjl
                          go_wp2
                          · go_ret
                            exact ⟨_, rfl, rfl⟩
                          · go_ret
                            exact ⟨_, rfl, rfl⟩
                          · go_round
                            case rel => exact ⟨_, j + 1, by omega, rfl, by go_num⟩
                            case measure => simp [intOf]; omega
                        · go_wp2
                          go_round
                          case rel => exact ⟨_, k + 1, by omega, rfl, by go_num⟩
                          case measure => simp [intOf]; omega
                  · go_wp2
                    go_ret
                    exact ⟨_, rfl, rfl⟩

end Go.Proofs.Qxb6600609a
