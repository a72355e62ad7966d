import Derived.Test.Qxb6600608aAdd
namespace Go.Proofs.Qxb6600608a
open Go.RowKit Go.SMaps

set_option maxHeartbeats 400000 in
theorem zzadd (B b bA n l : Nat) (z : Nat → ByteArray) (mp : Value) (w : World) (hn : n ≤ 100000) (hl : l < n) (h : SetAt B w b bA n z l mp) :
    Calls Try.prog 14 #[.pointer (some ⟨b, 0, none⟩)] w (AddPost B b bA n z l w) := by
  go_enter Try.func14, Try.ntmps14
  go_wp2_with fail
  refine (add_any B b bA n l z mp w hn hl h).mono ?_
  rintro e w' ⟨rfl, h1, h2⟩
  go_wp2
  go_ret
  exact ⟨rfl, h1, h2⟩

set_option maxHeartbeats 400000 in
theorem zzlen (B b bA n l : Nat) (z : Nat → ByteArray) (mp : Value) (w : World) (h : SetAt B w b bA n z l mp) :
    Calls Try.prog 15 #[.pointer (some ⟨b, 0, none⟩)] w fun e w' => e = .returned (.int .i64 (l : Int)) ∧ w' = w := by
  obtain ⟨_, c1, _, _, _⟩ := h.set.cells
  clear h
  go_enter Try.func15, Try.ntmps15
  go_wp2
  go_ret
  exact ⟨rfl, rfl⟩

set_option maxHeartbeats 400000 in
theorem zzhas (B b bA n l : Nat) (z : Nat → ByteArray) (mp : Value) (s : ByteArray) (w : World) (h : SetAt B w b bA n z l mp) :
    Calls Try.prog 17 #[.pointer (some ⟨b, 0, none⟩), .string s] w fun e w' => e = .returned (.bool (inB z l s)) ∧ w' = w := by
  go_enter Try.func17, Try.ntmps17
  go_wp2_with fail
  refine (has_any b bA n l z mp s w h.set h.idx).mono ?_
  rintro e w' ⟨rfl, rfl⟩
  go_wp2
  go_ret
  exact ⟨rfl, rfl⟩

theorem FR.fresh {n j k : Nat} {z : Nat → ByteArray} (h : FR n z j) (hk : k < j) : inB z k (z k) = false := inB_false (fun x hx => h.apart k hk x hx)
theorem FR.again {n j : Nat} {z : Nat → ByteArray} (h : FR n z j) (hj : j < n) : inB z j (z j) = true := by
  obtain ⟨m, h1, h2⟩ := h.hit hj
  exact inB_true h1 h2

theorem ret_eqn {a b : Int} (h : a = b) : Ending.returned (.bool (a == b)) = .returned (.bool true) := by rw [h]; simp

set_option maxRecDepth 10000 in
set_option maxHeartbeats 2000000 in
theorem lawA (a : Option Addr) (n c : Nat) (z : Nat → ByteArray) (w : World) (hn : n ≤ maxLen) (hr : SRow w a n z) (hnil : a = none → n = 0) :
    Calls Try.prog 3 #[.slice a n c] w fun e w' => e = .returned (.bool true) ∧ Below w.heap.size w w' := by
  have hby := zbytes9 a n c z w hn hr
  have hsb := sbytes a n c z w hn hr
  unfold maxLen at hn
  go_enter Try.func3, Try.ntmps3
  go_wp2_with fail
  refine hby.mono ?_
  rintro e w' ⟨r, rfl, rfl⟩
  clear hby
  cases r with
  | false =>
    go_wp2
    go_ret
    exact ⟨rfl, Below.refl _ _⟩
  | true =>
    by_cases b0 : 4096 < n
    · go_wp2
      go_ret
      exact ⟨rfl, Below.refl _ _⟩
    have d0 : decide ((4096 : Int) < (n : Int)) = false := decide_eq_false (by omega)
    have k0 : n ≤ 5000 := by omega
    clear b0 hn
    go_wp2_with fail
    clear d0
    refine hsb.mono ?_
    rintro e w1 ⟨x, rfl, rfl⟩
    clear hsb
    by_cases hx : 1048576 < x
    · go_wp2
      go_ret
      exact ⟨rfl, Below.refl _ _⟩
    have hx' : decide ((1048576 : Int) < x) = false := decide_eq_false hx
    clear hx
    go_wp2_with fail
    clear hx'
    refine (cloneS a n c z w1 (by omega) hr hnil).mono ?_
    rintro e w2 ⟨a', rfl, hnil', hr2, hb2⟩
    clear hr hnil
    go_wp2_with fail
    refine (firstR a' n n z w2 (by omega) hr2).mono ?_
    rintro e w3 ⟨j, q, rfl, rfl, hfr⟩
    have hr3 : SRow (w2.drewN q) a' n z := hr2
    have hb3 := below_drewN hb2 q
    generalize w2.drewN q = w3 at hr3 hb3
    clear hr2 hb2
    clear w2
    go_wp2_with fail
    refine (newSet a' n n z w3 (by omega) hr3).mono ?_
    rintro e w4 ⟨b, bA, rfl, hset, hb4, h1, h2⟩
    have hb34 : Below w1.heap.size w1 w4 := hb3.trans (hb4.mono hb3.size)
    have hS : SetAt w3.heap.size w4 b bA n z 0 (.map none) := ⟨hset, .inl ⟨by omega, rfl⟩, h1, h2, fun x e => by cases e⟩
    have hsz := hb3.size
    have hjn := hfr.le
    clear hset h1 h2 hb4
    go_wp2
    go_loopw [5] (fun i wr => ∃ k : Nat, k ≤ n ∧ i = .int .i64 k ∧ Below w1.heap.size w1 wr ∧ ∃ mp, SetAt w3.heap.size wr b bA n z (min k j) mp) (fun i _ => n - (intOf i).toNat)
    case atStart => exact ⟨0, Nat.zero_le _, rfl, hb34, _, by rw [Nat.zero_min]; exact hS⟩
    case round =>
      clear hS hb34
      obtain ⟨k, hk, rfl, hbr, mp, hS⟩ := hrel
      by_cases hkn : k < n
      · have hlt : min k j < n := by omega
        by_cases hkj : k < j
        · have hin := hfr.fresh hkj
          have hmin : min k j = k := by omega
          rw [hmin] at hS hlt
          go_wp2_with fail
          refine (zzadd w3.heap.size b bA n k z mp wr (by omega) hlt hS).mono ?_
          rintro e w5 ⟨rfl, hb5, mp', hS5⟩
          rw [hin] at hS5 ⊢
          have hb5' : Below w1.heap.size w1 w5 := hbr.trans (hb5.mono hsz)
          have HS5 : Hid (SetAt w3.heap.size w5 b bA n z (min (k + 1) j) mp') := by
            have : min (k + 1) j = k + 1 := by omega
            unfold Hid
            rw [this]
            exact hS5
          clear hS5 hb5 hS hmin hin
          go_wp2
          go_roundw
          case rel => exact ⟨k + 1, by omega, by go_num, hb5', mp', HS5.out⟩
          case measure => simp [intOf]; omega
        · have hin := hfr.again (by omega)
          have hmin : min k j = j := by omega
          rw [hmin] at hS hlt
          go_wp2_with fail
          refine (zzadd w3.heap.size b bA n j z mp wr (by omega) hlt hS).mono ?_
          rintro e w5 ⟨rfl, hb5, mp', hS5⟩
          rw [hin] at hS5 ⊢
          have hb5' : Below w1.heap.size w1 w5 := hbr.trans (hb5.mono hsz)
          have HS5 : Hid (SetAt w3.heap.size w5 b bA n z (min (k + 1) j) mp') := by
            have : min (k + 1) j = j := by omega
            unfold Hid
            rw [this]
            exact hS5
          clear hS5 hb5 hS hmin hin
          go_wp2
          go_roundw
          case rel => exact ⟨k + 1, by omega, by go_num, hb5', mp', HS5.out⟩
          case measure => simp [intOf]; omega
      · have hmin : min k j = j := by omega
        rw [hmin] at hS
        clear hmin
        go_wp2_with fail
        refine (zzlen w3.heap.size b bA n j z mp wr hS).mono ?_
        rintro e w5 ⟨rfl, rfl⟩
        go_wp2
        go_ret
        exact ⟨by first | rfl | exact ret_eqn rfl, hbr⟩

end Go.Proofs.Qxb6600608a
