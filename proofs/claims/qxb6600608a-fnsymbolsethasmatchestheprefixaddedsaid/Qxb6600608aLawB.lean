import Derived.Test.Qxb6600608aLawA
namespace Go.Proofs.Qxb6600608a
open Go.RowKit Go.SMaps

theorem inPre2 (a : Option Addr) (n c l : Nat) (z : Nat → ByteArray) (t : ByteArray) (w : World) (hlen : n ≤ 100000) (hl : l ≤ n) (hr : SRow w a n z) :
    Calls Try.prog 18 #[.slice a n c, .int .i64 l, .string t] w fun e w' => e = .returned (.bool (inB z l t)) ∧ w' = w := by
  refine (inPre a n c l z t w hlen hl hr).mono ?_
  rintro e w' ⟨rfl, rfl⟩
  refine ⟨?_, rfl⟩
  congr 2
  cases h : inB z l t
  · exact decide_eq_false (fun hx => by rw [(inB_iff z t l).2 hx] at h; cases h)
  · exact decide_eq_true ((inB_iff z t l).1 h)

theorem SetAt.drewN {B : Nat} {w : World} {b bA n l : Nat} {z : Nat → ByteArray} {mp : Value} (h : SetAt B w b bA n z l mp) (q : Nat) : SetAt B (w.drewN q) b bA n z l mp := ⟨h.set.drewN q, h.idx, h.hb, h.hA, h.hm⟩

/-- What holds of memory while the set is asked. -/
structure QW (w2 : World) (B b bA n l : Nat) (z : Nat → ByteArray) (mp : Value) (a' a1' : Option Addr) (m : Nat) (y : Nat → ByteArray) (wr : World) : Prop where
  set : SetAt B wr b bA n z l mp
  rz : SRow wr a' n z
  ry : SRow wr a1' m y
  bel : Below w2.heap.size w2 wr

section
variable {w2 : World} {B b bA n l : Nat} {z : Nat → ByteArray} {mp : Value} {a' a1' : Option Addr} {m : Nat} {y : Nat → ByteArray} {wr : World}
theorem QW.drewN (h : QW w2 B b bA n l z mp a' a1' m y wr) (q : Nat) : QW w2 B b bA n l z mp a' a1' m y (wr.drewN q) := ⟨h.set.drewN q, h.rz, h.ry, below_drewN h.bel q⟩

theorem QW.has (h : QW w2 B b bA n l z mp a' a1' m y wr) (t : ByteArray) (q : Nat) : Calls Try.prog 17 #[.pointer (some ⟨b, 0, none⟩), .string t] (wr.drewN q) fun e w' => e = .returned (.bool (inB z l t)) ∧ w' = wr.drewN q :=
  zzhas B b bA n l z mp t (wr.drewN q) (h.set.drewN q)
theorem QW.pre (h : QW w2 B b bA n l z mp a' a1' m y wr) (hn : n ≤ 100000) (hl : l ≤ n) (t : ByteArray) (q : Nat) : Calls Try.prog 18 #[.slice a' n n, .int .i64 l, .string t] (wr.drewN q) fun e w' => e = .returned (.bool (inB z l t)) ∧ w' = wr.drewN q :=
  inPre2 a' n n l z t (wr.drewN q) hn hl h.rz
end

set_option maxRecDepth 10000 in
set_option maxHeartbeats 4000000 in
theorem lawB (a0 a1 : Option Addr) (n c0 m c1 : Nat) (z y : Nat → ByteArray) (st : Int) (w : World) (hn : n ≤ maxLen) (hm : m ≤ maxLen) (hr : SRow w a0 n z) (hy : SRow w a1 m y) (hnil : a0 = none → n = 0) (hnil1 : a1 = none → m = 0) :
    Calls Try.prog 4 #[.slice a0 n c0, .slice a1 m c1, .int .i64 st] w fun e w' => e = .returned (.bool true) ∧ Below w.heap.size w w' := by
  have hby := zbytes16 a0 a1 n c0 m c1 z y st w hn hm hr hy
  have hsb := sbytes a0 n c0 z w hn hr
  have hsy := sbytes a1 m c1 y w hm hy
  unfold maxLen at hn hm
  go_enter Try.func4, Try.ntmps4
  go_wp2_with fail
  refine hby.mono ?_
  rintro e w' ⟨r, rfl, rfl⟩
  clear hby
  cases r with
  | false =>
    go_wp2
    go_ret
    exact ⟨rfl, Below.refl _ _⟩
  | true =>
    by_cases b0 : 4096 < n
    · go_wp2
      go_ret
      exact ⟨rfl, Below.refl _ _⟩
    by_cases b1 : 4096 < m
    · go_wp2
      go_ret
      exact ⟨rfl, Below.refl _ _⟩
    have d0 : decide ((4096 : Int) < (n : Int)) = false := decide_eq_false (by omega)
    have d1 : decide ((4096 : Int) < (m : Int)) = false := decide_eq_false (by omega)
    have k0 : n ≤ 5000 := by omega
    have k1 : m ≤ 5000 := by omega
    clear b0 b1 hn hm
    go_wp2_with fail
    refine hsb.mono ?_
    rintro e w1 ⟨x, rfl, rfl⟩
    clear hsb
    go_wp2_with fail
    refine hsy.mono ?_
    rintro e w2 ⟨x', rfl, rfl⟩
    clear hsy d0 d1
    obtain ⟨xx, hxx⟩ : ∃ xx, xx = wrap64 (x + x') := ⟨_, rfl⟩
    by_cases hx : 1048576 < xx
    · rw [hxx] at hx
      clear hxx
      go_wp2
      all_goals (go_ret; exact ⟨rfl, Below.refl _ _⟩)
    have hx' : decide ((1048576 : Int) < wrap64 (x + x')) = false := decide_eq_false (by rw [← hxx]; exact hx)
    clear hx hxx
    clear xx
    by_cases s0 : st < 0
    · go_wp2
      go_ret
      exact ⟨rfl, Below.refl _ _⟩
    by_cases s1 : (n : Int) < st
    · go_wp2
      go_ret
      exact ⟨rfl, Below.refl _ _⟩
    obtain ⟨st, rfl⟩ : ∃ s : Nat, st = s := ⟨st.toNat, by omega⟩
    have t0 : decide (((st : Nat) : Int) < 0) = false := decide_eq_false s0
    have t1 : decide ((n : Int) < ((st : Nat) : Int)) = false := decide_eq_false s1
    have hst : st ≤ n := by omega
    clear s0 s1
    go_wp2_with fail
    clear t0 t1 hx'
    refine (cloneS a0 n c0 z w2 (by omega) hr hnil).mono ?_
    rintro e w3 ⟨a', rfl, hnil', hr2, hb2⟩
    clear hr hnil
    go_wp2_with fail
    refine (cloneS a1 m c1 y w3 (by omega) (hy.below hb2 (Nat.le_refl _)) hnil1).mono ?_
    rintro e w4 ⟨a1', rfl, hnil1', hy2, hb4⟩
    have hr4 := hr2.below hb4 (Nat.le_refl _)
    have hb24 : Below w2.heap.size w2 w4 := hb2.trans (hb4.mono hb2.size)
    clear hr2 hb2 hb4 hy hnil1
    clear w3
    go_wp2_with fail
    refine (firstR a' n n z w4 (by omega) hr4).mono ?_
    rintro e w5 ⟨j, q, rfl, rfl, hfr⟩
    have hr5 : SRow (w4.drewN q) a' n z := hr4
    have hy5 : SRow (w4.drewN q) a1' m y := hy2
    have hb5 := below_drewN hb24 q
    generalize w4.drewN q = w5 at hr5 hy5 hb5
    clear hr4 hy2 hb24
    clear w4
    go_wp2_with fail
    refine (newSet a' n n z w5 (by omega) hr5).mono ?_
    rintro e w6 ⟨b, bA, rfl, hset, hb6, h1, h2⟩
    have hS : SetAt w5.heap.size w6 b bA n z 0 (.map none) := ⟨hset, .inl ⟨by omega, rfl⟩, h1, h2, fun x e => by cases e⟩
    have hsz := hb5.size
    have hjn := hfr.le
    clear hset h1 h2
    go_wp2
    go_loopw [9] (fun i wr => ∃ k : Nat, k ≤ st ∧ i = .int .i64 k ∧ Below w5.heap.size w5 wr ∧ ∃ mp, SetAt w5.heap.size wr b bA n z (min k j) mp) (fun i _ => st - (intOf i).toNat)
    case atStart => exact ⟨0, Nat.zero_le _, rfl, hb6, _, by rw [Nat.zero_min]; exact hS⟩
    case round =>
      clear hS hb6
      obtain ⟨k, hk, rfl, hbr, mp, hS⟩ := hrel
      by_cases hkn : k < st
      · have hlt : min k j < n := by omega
        go_wp2_with fail
        refine (zzadd w5.heap.size b bA n (min k j) z mp wr (by omega) hlt hS).mono ?_
        rintro e w7 ⟨rfl, hb7, mp', hS7⟩
        have hb7' : Below w5.heap.size w5 w7 := hbr.trans hb7
        have HS7 : Hid (SetAt w5.heap.size w7 b bA n z (min (k + 1) j) mp') := by
          unfold Hid
          by_cases hkj : k < j
          · have e1 : min k j = k := by omega
            have e2 : min (k + 1) j = k + 1 := by omega
            rw [e1, if_neg (by rw [hfr.fresh hkj]; simp)] at hS7
            rw [e2]; exact hS7
          · have e1 : min k j = j := by omega
            have e2 : min (k + 1) j = j := by omega
            rw [e1, if_pos (hfr.again (by omega))] at hS7
            rw [e2]; exact hS7
        clear hS7 hb7 hS
        go_wp2
        go_roundw
        case rel => exact ⟨k + 1, by omega, by go_num, hb7', mp', HS7.out⟩
        case measure => simp [intOf]; omega
      · have hks : k = st := by omega
        subst hks
        have hr6 := hr5.below hbr (Nat.le_refl _)
        have hy6 := hy5.below hbr (Nat.le_refl _)
        have hb16 : Below w2.heap.size w2 wr := hb5.trans (hbr.mono hsz)
        obtain ⟨l, hl⟩ : ∃ l, l = min k j := ⟨_, rfl⟩
        rw [← hl] at hS
        have hln : l ≤ n := by omega
        have HL : Hid (l = min k j) := hl
        have hlen := zzlen w5.heap.size b bA n l z mp wr hS
        have hjk : (j < k ∧ l = j) ∨ (¬ j < k ∧ l = k) := by omega
        clear hl HL
        have HQ : Hid (QW w2 w5.heap.size b bA n l z mp a' a1' m y wr) := ⟨hS, hr6, hy6, hb16⟩
        have hn5 : n ≤ 100000 := by omega
        clear hS hbr hfr hr5 hy5 hb5 hr6 hy6 hb16
        rcases hjk with ⟨hj, rfl⟩ | ⟨hj, rfl⟩
        all_goals
          go_wp2_with fail
          refine hlen.mono ?_
          rintro e w7 ⟨rfl, rfl⟩
          clear hlen
          go_wp2
          go_loopw [11] (fun i wr => ∃ k : Nat, k ≤ m ∧ i = .int .i64 k ∧ QW w2 w5.heap.size b bA n l z mp a' a1' m y wr) (fun i _ => m - (intOf i).toNat)
          case atStart => exact ⟨0, Nat.zero_le _, rfl, HQ.out⟩
          case round =>
            clear HQ
            obtain ⟨i, hi, rfl, hq⟩ := hrel
            by_cases him : i < m
            · obtain ⟨by_, offy, hby, rfl, cy⟩ := hq.ry i him
              have HQ := (show Hid _ from hq)
              have HH := (show Hid _ from hq.has)
              have HPR := (show Hid _ from hq.pre hn5 hln)
              clear hq
              go_wp2
              go_quiet ((first | (go_at_call 17; exact Calls.quiet_of_same (HH.out _ _)) | (go_at_call 18; exact Calls.quiet_of_same (HPR.out _ _))))
              go_wp2
              go_roundw
              case rel => exact ⟨i + 1, by omega, by go_num, HQ.out.drewN _⟩
              case measure => simp [intOf]; omega
            · go_wp2
              go_loopw [12] (fun i wr => ∃ k : Nat, k ≤ n ∧ i = .int .i64 k ∧ QW w2 w5.heap.size b bA n l z mp a' a1' m y wr) (fun i _ => n - (intOf i).toNat)
              case atStart => exact ⟨0, Nat.zero_le _, rfl, hq⟩
              case round =>
                clear hq
                obtain ⟨i, hi, rfl, hq⟩ := hrel
                by_cases hin : i < n
                · obtain ⟨bz, offz, hbz, rfl, cz⟩ := hq.rz i hin
                  have HQ := (show Hid _ from hq)
                  have HH := (show Hid _ from hq.has)
                  have HPR := (show Hid _ from hq.pre hn5 hln)
                  clear hq
                  go_wp2
                  go_quiet ((first | (go_at_call 17; exact Calls.quiet_of_same (HH.out _ _)) | (go_at_call 18; exact Calls.quiet_of_same (HPR.out _ _))))
                  go_wp2
                  go_roundw
                  case rel => exact ⟨i + 1, by omega, by go_num, HQ.out.drewN _⟩
                  case measure => simp [intOf]; omega
                · go_wp2
                  go_ret
                  exact ⟨rfl, hq.bel⟩

end Go.Proofs.Qxb6600608a
