import Derived.Test.Qxb6600523aLaws
namespace Go.Proofs.Qxb6600523a
open Go.RowKit

/-- What the end of the walk over a tree gives: the bound is what the two sweeps found. -/
theorem tree_end {n m : Nat} {F P : Nat → Nat} (sg : SG n m F P) {par dep : Nat → Nat} (t : Tree n (Adj n F P) par dep) {d0 d1 : Nat → Int} {f : Nat} (hf : f < n) (b0 : BRes n F P 0 d0) (b1 : BRes n F P f d1) (hall : ∀ v, v < n → 0 ≤ d0 v) (hfar : ∀ v, v < n → d0 v ≤ d0 f)
    {M : Int} (hM0 : 0 ≤ M) (hM1 : ∀ v, v < n → d1 v ≤ M) (hM2 : M = 0 ∨ ∃ v, v < n ∧ M = d1 v) {s : St} {fs : List (Nat × List Nat)} {home cnt : Nat → Nat} (hD : DI n F P s fs home cnt) (hT : TI n F P par s fs home) {c nx : Nat} (hp : s.path = [(c, nx)]) (hnx : F (c + 1) ≤ nx) :
    (s.bound : Int) = M ∧ s.bound < n := by
  have hcon : ∀ v, v < n → ∃ k, Wk (Adj n F P) k 0 v := fun v hv => by
    have := (b0.cases v hv).resolve_left (by have := hall v hv; omega)
    exact ⟨_, this.2⟩
  obtain ⟨g1, g2⟩ := hD.done sg hp hnx hcon
  refine ⟨?_, by omega⟩
  have hs := fun a b => sg.symm (n := n) (m := m) (F := F) (P := P) a b
  obtain ⟨D, d⟩ := dist_exists (n := n) (adj := Adj n F P) (fun x y hx hy => ⟨_, g2 x y hx hy⟩)
  have up : M ≤ s.bound := by
    rcases hM2 with e | ⟨v, hv, e⟩
    · omega
    · have := (b1.least sg hf (g2 f v hf hv)).2.2
      omega
  have far : ∀ v, v < n → D 0 v ≤ D 0 f := fun v hv => by
    have h1 := (b0.cases v hv).resolve_left (by have := hall v hv; omega)
    have h2 := d.lb 0 v sg.pos hv _ h1.2
    have h3 := (b0.least sg sg.pos (d.wk 0 f sg.pos hf)).2.2
    have h4 := hfar v hv
    omega
  have ecc : ∀ v, v < n → D f v ≤ M.toNat := fun v hv => by
    have h0 := (b1.least sg hf (g2 f v hf hv)).2.1
    have h1 := (b1.cases v hv).resolve_left (by omega)
    have h2 := d.lb f v hf hv _ h1.2
    have h3 := hM1 v hv
    omega
  obtain ⟨x, y, hx, hy, hxy⟩ := hT.breal
  have h1 := t.sweeps hs d hf sg.pos far ecc hx hy
  have h2 := hxy _ (d.wk x y hx hy)
  omega

theorem ret_eq {a b : Int} (h : a = b) : Ending.returned (.bool (a == b)) = .returned (.bool true) := by rw [h]; simp

set_option maxRecDepth 10000 in
set_option maxHeartbeats 4000000 in
theorem lawA (aF aP : Option Addr) (l0 c0 l1 c1 : Nat) (z p : Nat → Int) (w : World) (hl0 : l0 ≤ maxLen) (hl1 : l1 ≤ maxLen) (hF : Row .i64 w aF l0 z) (hP : Row .i32 w aP l1 p) (hnF : aF = none → l0 = 0) (hnP : aP = none → l1 = 0)
    (hzb : Hid (∀ i, i < l0 → (-9223372036854775808 ≤ z i ∧ z i ≤ 9223372036854775807))) (hpb : Hid (∀ i, i < l1 → (-2147483648 ≤ p i ∧ p i ≤ 2147483647))) :
    Calls Try.prog 4 #[.slice aF l0 c0, .slice aP l1 c1] w fun e w' => e = .returned (.bool true) ∧ Below w.heap.size w w' := by
  have hby := bytes14 aF aP l0 c0 l1 c1 hl0 hl1 w
  unfold maxLen at hl0 hl1
  go_enter Try.func4, Try.ntmps4
  go_wp2_with fail
  refine hby.mono ?_
  rintro e w' ⟨r, rfl, rfl⟩
  clear hby
  cases r with
  | false =>
    go_wp2
    go_ret
    exact ⟨rfl, Below.refl _ _⟩
  | true =>
    by_cases b0 : 4097 < l0
    · go_wp2
      go_ret
      exact ⟨rfl, Below.refl _ _⟩
    by_cases b1 : 65536 < l1
    · go_wp2
      go_ret
      exact ⟨rfl, Below.refl _ _⟩
    have d0 : decide ((4097 : Int) < (l0 : Int)) = false := decide_eq_false (by omega)
    have d1 : decide ((65536 : Int) < (l1 : Int)) = false := decide_eq_false (by omega)
    have d2 : decide ((1048576 : Int) < 8 * (l0 : Int) + 4 * (l1 : Int)) = false := decide_eq_false (by omega)
    have k0 : l0 ≤ 5000 := by omega
    have k1 : l1 ≤ 90000 := by omega
    clear b0 b1 hl0 hl1
    go_wp2_with fail
    clear d0 d1 d2
    refine (copyI aF l0 c0 z w' (by omega) hF hnF).mono ?_
    rintro e w1 ⟨aF', rfl, hnF', hF', hb1⟩
    go_wp2_with fail
    refine (copyI32 aP l1 c1 p w1 (by omega) (hP.below hb1 (Nat.le_refl _)) hnP).mono ?_
    rintro e w2 ⟨aP', rfl, hnP', hP', hb2⟩
    have hF2 := hF'.below hb2 (Nat.le_refl _)
    have hb12 : Below w'.heap.size w' w2 := hb1.trans (hb2.mono hb1.size)
    clear hF' hb1 hb2 hF hP hnF hnP
    clear w1
    go_wp2_with fail
    refine (simple_any aF' aP' l0 l1 l0 l1 z p w2 (by omega) (by omega) hF2 hP' hzb.out hpb.out).mono ?_
    rintro e w3 ⟨r, q, rfl, rfl, hr⟩
    cases r with
    | false =>
      clear hr
      go_wp2
      go_ret
      exact ⟨rfl, below_drewN hb12 q⟩
    | true =>
      have sz := hr rfl
      clear hr
      obtain ⟨n, rfl⟩ : ∃ n, l0 = n + 1 := ⟨l0 - 1, by have := sz.pos; omega⟩
      rw [Nat.add_sub_cancel] at sz
      obtain ⟨e1, e2, sg⟩ := sz.nat
      obtain ⟨F, P, sg, hF3, hP3⟩ : ∃ F P : Nat → Nat, SG n l1 F P ∧ Row .i64 (w2.drewN q) aF' (n + 1) (fun i => (F i : Int)) ∧ Row .i32 (w2.drewN q) aP' l1 (fun i => (P i : Int)) := by
        refine ⟨fun i => (z i).toNat, fun k => (p k).toNat, sg, fun i hi => ?_, fun i hi => ?_⟩
        · obtain ⟨b, off, h1, h2, h3⟩ := hF2 i hi
          exact ⟨b, off, h1, h2, h3.trans (by rw [e1 i (by omega)])⟩
        · obtain ⟨b, off, h1, h2, h3⟩ := hP' i hi
          exact ⟨b, off, h1, h2, h3.trans (by rw [e2 i hi])⟩
      have hb3 := below_drewN hb12 q
      clear hF2 hP' hb12 e1 e2 sz hzb hpb hnF' hnP'
      generalize w2.drewN q = w4 at hF3 hP3 hb3
      clear w2
      by_cases hm2 : (l1 : Int) = 2 * ((n : Int) - 1)
      rotate_left
      · have hm2' : ((l1 : Int) != 2 * ((n : Int) - 1)) = true := by simpa using hm2
        clear hm2
        go_wp2
        go_ret
        exact ⟨rfl, hb3⟩
      have hm2' : ((l1 : Int) != 2 * ((n : Int) - 1)) = false := by simpa using hm2
      have HM : Hid (l1 = 2 * (n - 1)) := (by have := sg.pos; omega : l1 = 2 * (n - 1))
      have hpos := sg.pos
      clear hm2
      go_wp2_with fail
      have hd0 := dist_any aF' aP' n l1 (n + 1) l1 0 F P w4 (by omega) (by omega) sg sg.pos hF3 hP3
      refine hd0.mono ?_
      clear hd0
      rintro e w5 ⟨D, bD, rfl, hrow, hres, hb5⟩
      go_wp2
      go_loopw [7, 8] (fun fa t wr => ∃ (f v q : Nat), v ≤ n ∧ f < n ∧ fa = .int .i64 (f : Int) ∧ t = .int .i64 (v : Int) ∧ wr = w5.drewN q ∧ Hid (∀ x, x < v → 0 ≤ D x ∧ D x ≤ D f)) (fun _ t _ => n - (intOf t).toNat)
      case atStart => exact ⟨0, 0, 0, Nat.zero_le _, hpos, rfl, rfl, rfl, fun x hx => absurd hx (by omega)⟩
      case round =>
        obtain ⟨f, v, q, hv, hf, rfl, rfl, rfl, hall⟩ := hrel
        by_cases hvn : v < n
        · have cD := hrow.cell hvn
          have cf := hrow.cell hf
          have HR := (show Hid _ from hrow)
          clear hrow
          by_cases hneg : D v < 0
          · go_wp2
            go_ret
            exact ⟨rfl, hb3.trans ((below_drewN hb5 q).mono hb3.size)⟩
          · by_cases hgt : D f < D v
            · go_wp2
              go_quiet (fail)
              go_wp2
              go_roundw
              case rel => exact ⟨v, v + 1, _, by omega, hvn, rfl, by go_num, rfl, fun x hx => by
                by_cases e : x = v
                · subst e; omega
                · have := hall.out x (by omega); omega⟩
              case measure => simp [intOf]; omega
            · have hgt' : D v ≤ D f := by omega
              clear hgt
              go_wp2
              go_quiet (fail)
              go_wp2
              go_roundw
              case rel => exact ⟨f, v + 1, _, by omega, hf, rfl, by go_num, rfl, fun x hx => by
                by_cases e : x = v
                · subst e; omega
                · have := hall.out x (by omega); omega⟩
              case measure => simp [intOf]; omega
        · have hvv : v = n := by omega
          subst hvv
          have hb5q := below_drewN hb5 q
          go_wp2_with fail
          refine (dist_any aF' aP' v l1 (v + 1) l1 f F P (w5.drewN q) (by omega) (by omega) sg hf (hF3.below hb5q (Nat.le_refl _)) (hP3.below hb5q (Nat.le_refl _))).mono ?_
          rintro e w6 ⟨D1, b1, rfl, hrow1, hres1, hb6⟩
          have hb46 : Below w4.heap.size w4 w6 := hb5q.trans (hb6.mono hb5q.size)
          clear hrow hb5q
          go_wp2
          go_loop [10, 11] (fun dm t => ∃ (d : Int) (x : Nat), x ≤ v ∧ 0 ≤ d ∧ d ≤ 100000 ∧ dm = .int .i64 d ∧ t = .int .i64 (x : Int) ∧ Hid (∀ y, y < x → D1 y ≤ d) ∧ Hid (d = 0 ∨ ∃ y, y < v ∧ d = D1 y)) (fun _ t => v - (intOf t).toNat)
          case atStart => exact ⟨0, 0, Nat.zero_le _, by omega, by omega, rfl, rfl, fun y hy => absurd hy (by omega), .inl rfl⟩
          case round =>
            obtain ⟨d, x, hx, hd0, hd1, rfl, rfl, hmax, hre⟩ := hrel
            by_cases hxn : x < v
            · have cD := hrow1.cell hxn
              have HR := (show Hid _ from hrow1)
              have hle := hres1.le x hxn
              clear hrow1
              by_cases hgt : d < D1 x
              · go_wp2
                go_round
                case rel => exact ⟨D1 x, x + 1, by omega, by omega, by omega, rfl, by go_num, fun y hy => by
                  by_cases e : y = x
                  · subst e; omega
                  · have := hmax.out y (by omega); omega, .inr ⟨x, hxn, rfl⟩⟩
                case measure => simp [intOf]; omega
              · go_wp2
                go_round
                case rel => exact ⟨d, x + 1, by omega, hd0, hd1, rfl, by go_num, fun y hy => by
                  by_cases e : y = x
                  · subst e; omega
                  · have := hmax.out y (by omega); omega, hre⟩
                case measure => simp [intOf]; omega
            · obtain ⟨par, ht⟩ := tree_of sg HM.out hres (fun y hy => (hall.out y hy).1)
              go_wp2_with fail
              refine (zz_any aF' aP' v l1 (v + 1) l1 F P w6 (by omega) (by omega) sg _ (runs_tree sg ht) (hF3.below hb46 (Nat.le_refl _)) (hP3.below hb46 (Nat.le_refl _))).mono ?_
              rintro e w7 ⟨st, c, nx, ⟨fs, home, cnt, hD, hT⟩, h2, h3, rfl, h5⟩
              obtain ⟨g1, g2⟩ := tree_end sg ht hf hres hres1 (fun y hy => (hall.out y hy).1) (fun y hy => (hall.out y hy).2) hd0 (fun y hy => hmax.out y (by omega)) hre.out hD hT h2 h3
              have HG := (show Hid _ from g1)
              clear g1 hD hT h2 h3
              unfold vi
              go_wp2
              go_ret
              exact ⟨ret_eq HG.out, hb3.trans ((hb46.trans (h5.mono hb46.size)).mono hb3.size)⟩

end Go.Proofs.Qxb6600523a
