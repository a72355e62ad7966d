import Derived.Test.Qxb6600523aLaws
import Derived.Deep.LoopGhost
namespace Go.Proofs.Qxb6600523a
open Go.RowKit

theorem ret_dec {p : Prop} [Decidable p] (h : p) : Ending.returned (.bool (decide p)) = .returned (.bool true) := by rw [decide_eq_true h]

set_option maxRecDepth 10000 in
set_option maxHeartbeats 4000000 in
theorem lawB (aF aP : Option Addr) (l0 c0 l1 c1 : Nat) (z p : Nat → Int) (w : World) (hl0 : l0 ≤ maxLen) (hl1 : l1 ≤ maxLen) (hF : Row .i64 w aF l0 z) (hP : Row .i32 w aP l1 p) (hnF : aF = none → l0 = 0) (hnP : aP = none → l1 = 0)
    (hzb : Hid (∀ i, i < l0 → (-9223372036854775808 ≤ z i ∧ z i ≤ 9223372036854775807))) (hpb : Hid (∀ i, i < l1 → (-2147483648 ≤ p i ∧ p i ≤ 2147483647))) :
    Calls Try.prog 6 #[.slice aF l0 c0, .slice aP l1 c1] w fun e w' => e = .returned (.bool true) ∧ Below w.heap.size w w' := by
  have hby := bytes19 aF aP l0 c0 l1 c1 hl0 hl1 w
  unfold maxLen at hl0 hl1
  go_enter Try.func6, Try.ntmps6
  go_wp2_with fail
  refine hby.mono ?_
  rintro e w' ⟨r, rfl, rfl⟩
  clear hby
  cases r with
  | false =>
    go_wp2
    go_ret
    exact ⟨rfl, Below.refl _ _⟩
  | true =>
    by_cases b0 : 4097 < l0
    · go_wp2
      go_ret
      exact ⟨rfl, Below.refl _ _⟩
    by_cases b1 : 65536 < l1
    · go_wp2
      go_ret
      exact ⟨rfl, Below.refl _ _⟩
    have d0 : decide ((4097 : Int) < (l0 : Int)) = false := decide_eq_false (by omega)
    have d1 : decide ((65536 : Int) < (l1 : Int)) = false := decide_eq_false (by omega)
    have d2 : decide ((1048576 : Int) < 8 * (l0 : Int) + 4 * (l1 : Int)) = false := decide_eq_false (by omega)
    have k0 : l0 ≤ 5000 := by omega
    have k1 : l1 ≤ 90000 := by omega
    clear b0 b1 hl0 hl1
    go_wp2_with fail
    clear d0 d1 d2
    refine (copyI aF l0 c0 z w' (by omega) hF hnF).mono ?_
    rintro e w1 ⟨aF', rfl, hnF', hF', hb1⟩
    go_wp2_with fail
    refine (copyI32 aP l1 c1 p w1 (by omega) (hP.below hb1 (Nat.le_refl _)) hnP).mono ?_
    rintro e w2 ⟨aP', rfl, hnP', hP', hb2⟩
    have hF2 := hF'.below hb2 (Nat.le_refl _)
    have hb12 : Below w'.heap.size w' w2 := hb1.trans (hb2.mono hb1.size)
    clear hF' hb1 hb2 hF hP hnF hnP
    clear w1
    go_wp2_with fail
    refine (simple_any aF' aP' l0 l1 l0 l1 z p w2 (by omega) (by omega) hF2 hP' hzb.out hpb.out).mono ?_
    rintro e w3 ⟨r, q, rfl, rfl, hr⟩
    cases r with
    | false =>
      clear hr
      go_wp2
      go_ret
      exact ⟨rfl, below_drewN hb12 q⟩
    | true =>
      have sz := hr rfl
      clear hr
      obtain ⟨n, rfl⟩ : ∃ n, l0 = n + 1 := ⟨l0 - 1, by have := sz.pos; omega⟩
      rw [Nat.add_sub_cancel] at sz
      obtain ⟨e1, e2, sg⟩ := sz.nat
      obtain ⟨F, P, sg, hF3, hP3⟩ : ∃ F P : Nat → Nat, SG n l1 F P ∧ Row .i64 (w2.drewN q) aF' (n + 1) (fun i => (F i : Int)) ∧ Row .i32 (w2.drewN q) aP' l1 (fun i => (P i : Int)) := by
        refine ⟨fun i => (z i).toNat, fun k => (p k).toNat, sg, fun i hi => ?_, fun i hi => ?_⟩
        · obtain ⟨b, off, h1, h2, h3⟩ := hF2 i hi
          exact ⟨b, off, h1, h2, h3.trans (by rw [e1 i (by omega)])⟩
        · obtain ⟨b, off, h1, h2, h3⟩ := hP' i hi
          exact ⟨b, off, h1, h2, h3.trans (by rw [e2 i hi])⟩
      have hb3 := below_drewN hb12 q
      clear hF2 hP' hb12 e1 e2 sz hzb hpb hnF' hnP'
      generalize w2.drewN q = w4 at hF3 hP3 hb3
      clear w2
      go_wp2
      go_loopw [6, 7] (fun dm t wr => ∃ (d : Int) (s : Nat), s ≤ n ∧ 0 ≤ d ∧ d ≤ 100000 ∧ dm = .int .i64 d ∧ t = .int .i64 (s : Int) ∧ Below w4.heap.size w4 wr ∧ Hid (∀ k : Nat, (∀ x y, x < n → y < n → Wk (Adj n F P) k x y) → d ≤ k) ∧ Hid (0 < s → ∀ v, v < n → ∃ k, Wk (Adj n F P) k 0 v)) (fun _ t _ => n - (intOf t).toNat)
      case atStart => exact ⟨0, 0, Nat.zero_le _, by omega, by omega, rfl, rfl, Below.refl _ _, fun k _ => by omega, fun h => absurd h (by omega)⟩
      case round =>
        obtain ⟨d, s, hs, hd0, hd1, rfl, rfl, hb4, hdm, hcon⟩ := hrel
        by_cases hsn : s < n
        · go_wp2_with fail
          refine (dist_any aF' aP' n l1 (n + 1) l1 s F P wr (by omega) (by omega) sg hsn (hF3.below hb4 (Nat.le_refl _)) (hP3.below hb4 (Nat.le_refl _))).mono ?_
          rintro e w5 ⟨D, bD, rfl, hrow, hres, hb5⟩
          have hb45 : Below w4.heap.size w4 w5 := hb4.trans (hb5.mono hb4.size)
          clear hb5
          go_wp2
          go_loop [6, 9] (fun dm t => ∃ (d : Int) (v : Nat), v ≤ n ∧ 0 ≤ d ∧ d ≤ 100000 ∧ dm = .int .i64 d ∧ t = .int .i64 (v : Int) ∧ Hid (∀ k : Nat, (∀ x y, x < n → y < n → Wk (Adj n F P) k x y) → d ≤ k) ∧ Hid (∀ x, x < v → 0 ≤ D x)) (fun _ t => n - (intOf t).toNat)
          case atStart => exact ⟨d, 0, Nat.zero_le _, hd0, hd1, rfl, rfl, hdm, fun x hx => absurd hx (by omega)⟩
          case round =>
            clear hdm hd0 hd1
            obtain ⟨d, v, hv, hd0, hd1, rfl, rfl, hdm, hall⟩ := hrel
            by_cases hvn : v < n
            · have cD := hrow.cell hvn
              have HR := (show Hid _ from hrow)
              clear hrow
              by_cases hneg : D v < 0
              · go_wp2
                go_ret
                exact ⟨rfl, hb3.trans (hb45.mono hb3.size)⟩
              · have hall' : Hid (∀ x, x < v + 1 → 0 ≤ D x) := fun x hx => by
                  by_cases e : x = v
                  · subst e; omega
                  · exact hall.out x (by omega)
                have hle : Hid (∀ k : Nat, (∀ x y, x < n → y < n → Wk (Adj n F P) k x y) → D v ≤ k) := fun k hk => (hres.least sg hsn (hk s v hsn hvn)).2.2
                have hdle := hres.le v hvn
                by_cases hgt : d < D v
                · go_wp2
                  go_round
                  case rel => exact ⟨D v, v + 1, by omega, by omega, by omega, rfl, by go_num, hle, hall'⟩
                  case measure => simp [intOf]; omega
                · go_wp2
                  go_round
                  case rel => exact ⟨d, v + 1, by omega, hd0, hd1, rfl, by go_num, hdm, hall'⟩
                  case measure => simp [intOf]; omega
            · have hcon' : Hid (0 < s + 1 → ∀ v, v < n → ∃ k, Wk (Adj n F P) k 0 v) := fun _ x hx => by
                by_cases e : s = 0
                · subst e
                  have := (hres.cases x hx).resolve_left (by have := hall.out x (by omega); omega)
                  exact ⟨_, this.2⟩
                · exact hcon.out (by omega) x hx
              clear hcon
              go_wp2
              go_roundw
              case rel => exact ⟨d, s + 1, by omega, hd0, hd1, rfl, by go_num, hb45, hdm, hcon'⟩
              case measure => simp [intOf]; omega
        · have hpos := sg.pos
          have hcon' := hcon.out (by omega)
          have HC := (show Hid _ from hcon')
          clear hcon'
          go_wp2_with fail
          refine (zz_any aF' aP' n l1 (n + 1) l1 F P wr (by omega) (by omega) sg _ (runs_any sg) (hF3.below hb4 (Nat.le_refl _)) (hP3.below hb4 (Nat.le_refl _))).mono ?_
          rintro e w5 ⟨st, c, nx, ⟨fs, home, cnt, hD⟩, h2, h3, rfl, h5⟩
          obtain ⟨g1, g2⟩ := hD.done sg h2 h3 HC.out
          have g3 := hdm.out st.bound g2
          have hb45 : Below w4.heap.size w4 w5 := hb4.trans (h5.mono hb4.size)
          have hbd : st.bound ≤ 100000 := by omega
          clear h5 g2 hD h2 h3
          unfold vi
          go_wp2
          go_ret
          exact ⟨ret_dec (by omega), hb3.trans (hb45.mono hb3.size)⟩

end Go.Proofs.Qxb6600523a
