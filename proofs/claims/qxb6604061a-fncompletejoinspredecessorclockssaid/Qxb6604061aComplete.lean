import Derived.Test.Qxb6604061aSt
import Derived.BigRegion
namespace Go.Proofs.Qxb6604061a
open Go.RowKit

theorem St.setLen {D : Hist} {A : Ats} {ga : Option Addr} {gc gb cb len cc sb : Nat} {w0 w : World} {G Z : Nat → Int} (h : St D A ga gc gb cb len cc sb w0 G Z w) (l : Nat) : St D A ga gc gb cb l cc sb w0 G Z (w.setCell ⟨sb, 8, none⟩ (.slice (some ⟨cb, 0, none⟩) l cc)) := by
  refine ⟨⟨h.kept.os, h.kept.tape, h.kept.output, Nat.le_trans h.kept.size (by simp [World.setCell]), fun b hb => ?_⟩, ?_, fun hn => rowIs_other (h.grp hn) (fun e => (h.sg hn).1 e.symm), rowIs_other h.clk (fun e => h.sc e.symm), h.sg, h.sc⟩
  · rw [heap_setCell_other _ _ _ _ (by exact hb.2.2.2)]
    exact h.kept.block b hb
  · rw [heap_setCell_same w sb 8 _ 47 _ h.chk]
    simp [Qxb6604061a.chk]

theorem idx0 (w : World) (x y : Int) : (Instr.index 49 (.agg #[.int .i32 x, .int .i32 y]) (.int .i64 ((0 : Nat) : Int))).run Try.prog w = .ok (.int .i32 x) w := by kernel_rfl
theorem idx1 (w : World) (x y : Int) : (Instr.index 49 (.agg #[.int .i32 x, .int .i32 y]) (.int .i64 ((1 : Nat) : Int))).run Try.prog w = .ok (.int .i32 y) w := by kernel_rfl

/-- What is read. -/
structure Rd (K : Nat → Prop) (D : Hist) (A : Ats) (w : World) : Prop where
  o : ORow K w A.oa D.n D.s D.o
  c : VRow K w A.ca D.n (iv D.cl)
  i : VRow K w A.ia D.n (iv D.ix)
  b : VRow K w A.ba D.n (iv D.be)
  s : VRow K w A.sa D.n (iv D.so)

theorem Rd.kept {K : Nat → Prop} {D : Hist} {A : Ats} {w w' : World} (h : Rd K D A w) (hk : Kept K w w') : Rd K D A w' := ⟨h.o.kept hk, h.c.kept hk, h.i.kept hk, h.b.kept hk, h.s.kept hk⟩

/-- The members and what is asked of them. -/
structure Mem (D : Hist) (g : Nat → Int) (k m : Nat) (mem : Nat → Nat) : Prop where
  lt : ∀ t, t < m → mem t < D.n
  be : ∀ t, t < m → D.be (mem t) < 0 ∨ (0 ≤ D.be (mem t) ∧ D.be (mem t) < D.n ∧ ((∃ x, x < m ∧ (mem x : Int) = D.be (mem t)) ∨ (0 ≤ g (D.be (mem t)).toNat ∧ g (D.be (mem t)).toNat < k)))
  so : ∀ t, t < m → D.so (mem t) < 0 ∨ (0 ≤ D.so (mem t) ∧ D.so (mem t) < D.n ∧ ((∃ x, x < m ∧ (mem x : Int) = D.so (mem t)) ∨ (0 ≤ g (D.so (mem t)).toNat ∧ g (D.so (mem t)).toNat < k)))
  cl : ∀ t, t < m → ordb (D.s (mem t)) (D.o (mem t)) = true → 0 ≤ D.cl (mem t) ∧ D.cl (mem t) < D.C

def ComplPost (D : Hist) (A : Ats) (ga : Option Addr) (gc gb cb len cc sb : Nat) (w0 : World) (G Z : Nat → Int) (e : Ending) (w' : World) : Prop := e = .returned (.tuple #[]) ∧ St D A ga gc gb cb len cc sb w0 G Z w'

theorem edge_cases {n k t : Nat} {g G : Nat → Int} {mem : Nat → Nat} {x : Int} (hG : G = gs g k mem t) (h : x < 0 ∨ (0 ≤ x ∧ x < n ∧ ((∃ z, z < t ∧ (mem z : Int) = x) ∨ (0 ≤ g x.toNat ∧ g x.toNat < k)))) :
    x < 0 ∨ ∃ p : Nat, x = p ∧ p < n ∧ (G p = k ∨ ∃ gp : Nat, G p = gp ∧ gp < k) := by
  rcases h with h | ⟨h1, h2, h3⟩
  · exact .inl h
  · obtain ⟨p, rfl⟩ := Int.eq_ofNat_of_zero_le h1
    refine .inr ⟨p, rfl, by omega, ?_⟩
    by_cases hm : ∃ z, z < t ∧ mem z = p
    · exact .inl (by rw [hG]; exact gs_mem g k mem t p hm)
    · rcases h3 with ⟨z, hz, e⟩ | ⟨h3, h4⟩
      · exact absurd ⟨z, hz, by omega⟩ hm
      · simp only [Int.toNat_natCast] at h3 h4
        obtain ⟨gp, hgp⟩ := Int.eq_ofNat_of_zero_le h3
        refine .inr ⟨gp, by rw [hG, gs_not g k mem t p hm]; exact hgp, by omega⟩

theorem je_skip {C : Nat} {c g : Nat → Int} {k p : Int} {v : Nat → Int} (h : p < 0 ∨ g p.toNat = k) : je C c g k p v = v := by unfold je; rw [if_pos h]

theorem cv_je {C r r' gp p : Nat} {c g v : Nat → Int} {k : Int} (hg : g p = gp) (hk : (gp : Int) ≠ k) (hr : r' = gp * C) :
    cv r C c (fun i => if i < C then max (v i) (c (r' + i)) else v i) = cv r C c (je C c g k (p : Int) v) := by
  have hj : je C c g k (p : Int) v = fun j => max (v j) (c (r' + j)) := by
    unfold je
    rw [if_neg (by simp only [Int.toNat_natCast, hg]; intro h; rcases h with h | h <;> omega)]
    simp only [Int.toNat_natCast, hg, hr]
  funext x
  unfold cv
  by_cases h1 : x < r
  · rw [if_pos h1, if_pos h1]
  · rw [if_neg h1, if_neg h1]
    by_cases h2 : x < r + C
    · rw [if_pos h2, if_pos h2, hj]
      show (if x - r < C then _ else _) = _
      rw [if_pos (by omega)]
    · rw [if_neg h2, if_neg h2]

theorem cv_upd {C r j : Nat} {c v : Nat → Int} {a : Int} (hj : j < C) : (fun y => if y = r + j then a else cv r C c v y) = cv r C c (fun i => if i = j then a else v i) := by
  funext y
  unfold cv
  by_cases h1 : y < r
  · rw [if_neg (by omega), if_pos h1, if_pos h1]
  · rw [if_neg h1, if_neg h1]
    by_cases h2 : y < r + C
    · rw [if_pos h2, if_pos h2]
      by_cases e : y = r + j
      · rw [if_pos e]
        show a = if y - r = j then a else v (y - r)
        rw [if_pos (by omega)]
      · rw [if_neg e]
        show v (y - r) = if y - r = j then a else v (y - r)
        rw [if_neg (by omega)]
    · rw [if_neg h2, if_neg h2, if_neg (by omega)]

theorem cv_step {C r r' j : Nat} {c V : Nat → Int} (hj : j < C) : (fun y => if y = r + j then max (V j) (c (r' + j)) else cv r C c (fun i => if i < j then max (V i) (c (r' + i)) else V i) y) = cv r C c (fun i => if i < j + 1 then max (V i) (c (r' + i)) else V i) := by
  rw [cv_upd hj]
  congr 1
  funext i
  by_cases e : i = j
  · subst e; rw [if_pos rfl, if_pos (by omega)]
  · have : i < j + 1 ↔ i < j := by omega
    simp only [if_neg e, this]

theorem cv_low {C r x : Nat} {c v : Nat → Int} (h : x < r) : cv r C c v x = c x := by unfold cv; rw [if_pos h]
theorem cv_row {C r j : Nat} {c v : Nat → Int} (h : j < C) : cv r C c v (r + j) = v j := by
  unfold cv
  rw [if_neg (by omega), if_pos (by omega), Nat.add_sub_cancel_left]

set_option maxRecDepth 10000 in
set_option maxHeartbeats 4000000 in
theorem complete18 (D : Hist) (A : Ats) (ga ma : Option Addr) (gc gb cb k r cc sb m mc : Nat) (g c : Nat → Int) (mem : Nat → Nat) (w : World)
    (hst : St D A ga gc gb cb r cc sb w g c w) (hrd : Rd (Old w gb cb sb) D A w) (hmr : VRow (Old w gb cb sb) w ma m (iv fun t => (mem t : Int))) (hm : Mem D g k m mem) (hr : r = k * D.C) (hcc : r + D.C ≤ cc) (hcc2 : cc ≤ 1000000) (hC : 1 ≤ D.C)
    (hn : D.n ≤ 262144) (hmm : m ≤ 262144) (hz : ∀ j, j < D.C → c (r + j) = 0) :
    Calls Try.prog 18 #[.pointer (some ⟨sb, 0, none⟩), .slice ma m mc] w (ComplPost D A ga gc gb cb (r + D.C) cc sb w (gs g k mem m) (cv r D.C c (js D c (gs g k mem m) k mem m))) := by
  have HST : Hid (St D A ga gc gb cb r cc sb w g c w) := hst
  have HRD : Hid (Rd (Old w gb cb sb) D A w) := hrd
  have HMR : Hid (VRow (Old w gb cb sb) w ma m (iv fun t => (mem t : Int))) := hmr
  have HM : Hid (Mem D g k m mem) := hm
  have HZ : Hid (∀ j, j < D.C → c (r + j) = 0) := hz
  have HRK : Hid (r = k * D.C) := hr
  have hkr : k ≤ r := by rw [hr]; exact Nat.le_mul_of_pos_right k hC
  have hq : (r : Int).tdiv (D.C : Int) = (k : Int) := by
    rw [hr, Int.natCast_mul]
    exact Int.mul_tdiv_cancel _ (by omega)
  obtain ⟨_, c1, _, _, _, _, _, c8, f8⟩ := chk_cells hst.chk
  clear hst hrd hmr hm hz hr
  go_enter Try.func18, Try.ntmps18
  go_upto_region 0 with fail
  go_quiet (fail)
  go_upto_region 1 with fail
  go_region
  go_upto_region 2 with fail
  refine wp_gen (fun w1 => St D A ga gc gb cb (r + D.C) cc sb w g c w1) ((HST.out.drewN (nq + 1)).setLen (r + D.C)) ?_
  clear c1 c8 f8 hq HST
  intro w1 h1
  have HST : Hid (St D A ga gc gb cb (r + D.C) cc sb w g c w1) := h1
  obtain ⟨_, c1, _, _, _, _, _, c8, _⟩ := chk_cells h1.chk
  clear h1
  go_quiet (fail)
  go_upto_region 3 with fail
  refine wp_gen (fun w2 => St D A ga gc gb cb (r + D.C) cc sb w g c w2) (HST.out.drewN _) ?_
  clear c1 c8 HST
  intro w2 h2
  have HST : Hid (St D A ga gc gb cb (r + D.C) cc sb w g c w2) := h2
  clear h2
  go_wp2
  go_loopw [60] (fun i wr => ∃ t : Nat, t ≤ m ∧ i = .int .i64 t ∧ Hid (St D A ga gc gb cb (r + D.C) cc sb w (gs g k mem t) c wr)) (fun i _ => m - (intOf i).toNat)
  case atStart => exact ⟨0, Nat.zero_le _, rfl, HST.out⟩
  case round =>
    clear HST
    obtain ⟨t, ht, rfl, HST⟩ := hrel
    by_cases hlt : t < m
    · have dt : decide ((t : Int) < (m : Int)) = true := decide_eq_true (by omega)
      have hmt := HM.out.lt t hlt
      have hn0 : 0 < D.n := by omega
      have hga := (HST.out.sg hn0).2.2
      subst hga
      obtain ⟨bm, om, _, ea, e1⟩ := (HMR.out.kept HST.out.kept) t hlt
      subst ea
      simp only [iv] at e1
      obtain ⟨_, _, _, _, _, _, c7, _, _⟩ := chk_cells HST.out.chk
      have e2 := (HST.out.grp hn0).cell hmt
      have f2 := (HST.out.grp hn0).frozen (mem t)
      generalize hmi : mem t = mi at *
      have HMI : Hid (mem t = mi) := hmi
      have hmn : decide ((mi : Int) < (D.n : Int)) = true := decide_eq_true (by omega)
      clear hmi
      go_wp2
      go_roundw
      case rel => exact ⟨t + 1, by omega, by go_num, by
        have := HST.out.setG hn0 mi k
        unfold gs
        rw [HMI.out]
        exact this⟩
      case measure => simp [intOf]; omega
    · have dt : decide ((t : Int) < (m : Int)) = false := decide_eq_false (by omega)
      have htm : t = m := by omega
      subst htm
      obtain ⟨G, hG⟩ : ∃ G, G = gs g k mem t := ⟨_, rfl⟩
      rw [← hG] at HST ⊢
      have HG : Hid (G = gs g k mem t) := hG
      clear hG ht hlt
      go_wp2
      clear dt
      have HS0 : Hid (St D A ga gc gb cb (r + D.C) cc sb w G (cv r D.C c (js D c G k mem 0)) wr) := by
        have e : cv r D.C c (js D c G k mem 0) = c := by
          funext x
          unfold cv js
          by_cases h1 : x < r
          · rw [if_pos h1]
          · rw [if_neg h1]
            by_cases h2 : x < r + D.C
            · rw [if_pos h2]
              have := HZ.out (x - r) (by omega)
              rw [show r + (x - r) = x by omega] at this
              rw [this]
            · rw [if_neg h2]
        unfold Hid
        rw [e]
        exact HST.out
      clear HST
      go_loopw [74] (fun i wr => ∃ u : Nat, u ≤ t ∧ i = .int .i64 u ∧ Hid (St D A ga gc gb cb (r + D.C) cc sb w G (cv r D.C c (js D c G k mem u)) wr)) (fun i _ => t - (intOf i).toNat)
      case atStart => exact ⟨0, Nat.zero_le _, rfl, HS0.out⟩
      case round =>
        clear HS0
        obtain ⟨u, hu, rfl, HST⟩ := hrel
        by_cases hlt : u < t
        · have dt : decide ((u : Int) < (t : Int)) = true := decide_eq_true (by omega)
          have hmt := HM.out.lt u hlt
          have hn0 : 0 < D.n := by omega
          have hga := (HST.out.sg hn0).2.2
          subst hga
          obtain ⟨bm, om, _, ea, e1⟩ := (HMR.out.kept HST.out.kept) u hlt
          subst ea
          simp only [iv] at e1
          obtain ⟨mi, hmi⟩ : ∃ mi, mi = mem u := ⟨_, rfl⟩
          have hbe := HM.out.be u hlt
          have hso := HM.out.so u hlt
          have hcl := HM.out.cl u hlt
          rw [← hmi] at e1 hmt hbe hso hcl
          have HMI : Hid (mi = mem u) := hmi
          have HCL : Hid (ordb (D.s mi) (D.o mi) = true → 0 ≤ D.cl mi ∧ D.cl mi < D.C) := hcl
          obtain ⟨x, hx⟩ : ∃ x, x = D.be mi := ⟨_, rfl⟩
          obtain ⟨y, hy⟩ : ∃ y, y = D.so mi := ⟨_, rfl⟩
          rw [← hx] at hbe
          rw [← hy] at hso
          have HBE : Hid (x < 0 ∨ (0 ≤ x ∧ x < D.n ∧ ((∃ z, z < t ∧ (mem z : Int) = x) ∨ (0 ≤ g x.toNat ∧ g x.toNat < k)))) := hbe
          have HSO : Hid (y < 0 ∨ (0 ≤ y ∧ y < D.n ∧ ((∃ z, z < t ∧ (mem z : Int) = y) ∨ (0 ≤ g y.toNat ∧ g y.toNat < k)))) := hso
          have HX : Hid (x = D.be mi) := hx
          have HY : Hid (y = D.so mi) := hy
          obtain ⟨v, hv⟩ : ∃ v, v = js D c G k mem u := ⟨_, rfl⟩
          rw [← hv] at HST
          have HV : Hid (v = js D c G k mem u) := hv
          clear hmi hcl hbe hso hx hy hv
          go_wp2_with fail
          clear dt e1
          refine (edges19 D A _ gc cb _ cc sb mi _ HST.out.chk ((HRD.out.kept HST.out.kept).b.mono (fun b hb => Nat.lt_of_lt_of_le hb.1 HST.out.kept.size)) ((HRD.out.kept HST.out.kept).s.mono (fun b hb => Nat.lt_of_lt_of_le hb.1 HST.out.kept.size)) hmt).mono ?_
          rintro e w3 ⟨q, rfl, hw3⟩
          have HS3 : Hid (St D A (some ⟨gb, 0, none⟩) gc gb cb (r + D.C) cc sb w G (cv r D.C c v) w3) := by rw [hw3]; exact (HST.out.alloc _).drewN q
          clear hw3 HST
          rw [← HX.out, ← HY.out]
          go_wp2
          go_loopw [81] (fun i wr => ∃ e : Nat, e ≤ 2 ∧ i = .int .i64 e ∧ Hid (St D A (some ⟨gb, 0, none⟩) gc gb cb (r + D.C) cc sb w G (cv r D.C c (if e = 0 then v else if e = 1 then je D.C c G k x v else je D.C c G k y (je D.C c G k x v))) wr)) (fun i _ => 2 - (intOf i).toNat)
          case atStart => exact ⟨0, by omega, rfl, HS3.out⟩
          case round =>
            clear HS3
            obtain ⟨e, he, rfl, HST⟩ := hrel
            by_cases he2 : e = 2
            · subst he2
              obtain ⟨v2, hv2⟩ : ∃ v2, v2 = je D.C c G k y (je D.C c G k x v) := ⟨_, rfl⟩
              have HSV : Hid (St D A (some ⟨gb, 0, none⟩) gc gb cb (r + D.C) cc sb w G (cv r D.C c v2) wr) := by rw [hv2]; exact HST.out
              have HV2 : Hid (v2 = je D.C c G k y (je D.C c G k x v)) := hv2
              clear HST hv2
              have hjs : Hid (js D c G k mem (u + 1) = jo D mi v2) := by
                show jm D c G k (mem u) (js D c G k mem u) = _
                rw [← HV.out, ← HMI.out, HV2.out, HX.out, HY.out]
                rfl
              go_wp2_with fail
              refine (ordered21 (Old w gb cb sb) D A _ gc cb _ cc sb mi _ HSV.out.chk (HRD.out.kept HSV.out.kept).o hmt).mono ?_
              rintro e' w4 ⟨rfl, hw4⟩
              subst hw4
              cases hob : ordb (D.s mi) (D.o mi) with
              | false =>
                have HOB : Hid (ordb (D.s mi) (D.o mi) = false) := hob
                clear hob
                go_wp2
                go_roundw
                case rel => exact ⟨u + 1, by omega, by go_num, by
                  rw [hjs.out]
                  unfold jo
                  rw [if_neg (by rw [HOB.out]; exact Bool.false_ne_true)]
                  exact HSV.out⟩
                case measure => simp [intOf]; omega
              | true =>
                have HOB : Hid (ordb (D.s mi) (D.o mi) = true) := hob
                obtain ⟨hc0, hc1⟩ := HCL.out hob
                clear hob
                obtain ⟨cn, hcn⟩ := Int.eq_ofNat_of_zero_le hc0
                have hcC : cn < D.C := by omega
                obtain ⟨_, _, c2, c3, _, _, _, _, _⟩ := chk_cells HSV.out.chk
                obtain ⟨bc, oc, _, ec, g1⟩ := (HRD.out.kept HSV.out.kept).c mi hmt
                obtain ⟨bi, oi, _, ei, g2⟩ := (HRD.out.kept HSV.out.kept).i mi hmt
                rw [ec] at c2
                rw [ei] at c3
                simp only [iv] at g1 g2
                rw [hcn] at g1
                have g3 := HSV.out.clk.cell (i := r + cn) (by omega)
                have f3 := HSV.out.clk.frozen (r + cn)
                simp only [iv] at g3
                rw [cv_row hcC] at g3
                generalize hva : v2 cn = va at *
                generalize hia : D.ix mi = ia at *
                have HVA : Hid (v2 cn = va) := hva
                have HIA : Hid (D.ix mi = ia) := hia
                have HCN : Hid (D.cl mi = cn) := hcn
                clear hva hia hcn hc0 hc1 ec ei
                have dm : decide ((mi : Int) < (D.n : Int)) = true := decide_eq_true (by omega)
                have dc : decide ((cn : Int) < (D.C : Int)) = true := decide_eq_true (by omega)
                go_upto_region 22 with fail
                go_region
                clear c2 c3 g1 g2 g3 f3
                go_wp2
                go_roundw
                case rel => exact ⟨u + 1, by omega, by go_num, by
                  have h := (HSV.out.setC (r + cn) (max va ia)).drewN 1
                  rw [cv_upd hcC] at h
                  rw [hjs.out]
                  have e : jo D mi v2 = fun i => if i = cn then max va ia else v2 i := by
                    unfold jo
                    rw [if_pos HOB.out]
                    funext i
                    by_cases e : i = cn
                    · subst e; rw [if_pos rfl, if_pos HCN.out.symm, HVA.out, HIA.out]
                    · rw [if_neg e, if_neg (by rw [HCN.out]; omega)]
                  have hmx : max va ia = if va < ia then ia else va := by split <;> omega
                  rw [e]
                  rw [← hmx]
                  exact h⟩
                case measure => simp [intOf]; omega
            · have hel : e < 2 := by omega
              obtain ⟨z, V, hz, hidx, HSV, HZZ, HNX⟩ : ∃ (z : Int) (V : Nat → Int), z = (if e = 0 then x else y) ∧ (∀ w, (Instr.index 49 (.agg #[.int .i32 x, .int .i32 y]) (.int .i64 (e : Int))).run Try.prog w = .ok (.int .i32 z) w) ∧ Hid (St D A (some ⟨gb, 0, none⟩) gc gb cb (r + D.C) cc sb w G (cv r D.C c V) wr) ∧ Hid (z < 0 ∨ (0 ≤ z ∧ z < D.n ∧ ((∃ a, a < t ∧ (mem a : Int) = z) ∨ (0 ≤ g z.toNat ∧ g z.toNat < k)))) ∧ Hid ((if e + 1 = 0 then v else if e + 1 = 1 then je D.C c G k x v else je D.C c G k y (je D.C c G k x v)) = je D.C c G k z V) := by
                have he' : e = 0 ∨ e = 1 := by omega
                rcases he' with rfl | rfl
                · exact ⟨x, v, rfl, fun w => idx0 w x y, HST.out, HBE.out, rfl⟩
                · exact ⟨y, je D.C c G k x v, rfl, fun w => idx1 w x y, HST.out, HSO.out, rfl⟩
              clear HST hz he2 he
              have de : decide ((e : Int) < 2) = true := decide_eq_true (by omega)
              rcases edge_cases HG.out HZZ.out with hneg | ⟨p, hzp, hpn, hgp⟩
              · have d1 : decide (z < 0) = true := decide_eq_true hneg
                go_wp2
                go_roundw
                case rel => exact ⟨e + 1, by omega, by go_num, by
                  rw [HNX.out, je_skip (.inl hneg)]
                  exact HSV.out⟩
                case measure => simp [intOf]; omega
              · subst hzp
                have d1 : decide ((p : Int) < 0) = false := decide_eq_false (by omega)
                have d2 : decide ((p : Int) < (D.n : Int)) = true := decide_eq_true (by omega)
                obtain ⟨_, _, _, _, _, _, c7, _, _⟩ := chk_cells HSV.out.chk
                have e3 := (HSV.out.grp hn0).cell hpn
                simp only [iv] at e3
                rcases hgp with hgk | ⟨gp, hgp, hlt2⟩
                · rw [hgk] at e3
                  have HGK : Hid (G p = (k : Int)) := hgk
                  clear hgk
                  go_wp2
                  go_roundw
                  case rel => exact ⟨e + 1, by omega, by go_num, by
                    rw [HNX.out, je_skip (.inr (by rw [Int.toNat_natCast]; exact HGK.out))]
                    exact HSV.out⟩
                  case measure => simp [intOf]; omega
                · rw [hgp] at e3
                  have HGP : Hid (G p = (gp : Int)) := hgp
                  have d3 : ((gp : Int) == (k : Int)) = false := by simp only [beq_eq_false_iff_ne]; omega
                  have hrr : gp * D.C + D.C ≤ r := by
                    have := Nat.mul_le_mul_right D.C (show gp + 1 ≤ k by omega)
                    rw [Nat.add_mul, Nat.one_mul, ← HRK.out] at this
                    exact this
                  clear hgp
                  go_wp2_with fail
                  refine (clock20 D A gb gc cb _ cc sb p gp (gp * D.C) _ HSV.out.chk e3 hpn rfl (by omega) hcc2 (by omega) (by omega) hC).mono ?_
                  clear c7 e3 d3
                  rintro e' w4 ⟨q4, rfl, hw4⟩
                  have HS4 : Hid (St D A (some ⟨gb, 0, none⟩) gc gb cb (r + D.C) cc sb w G (cv r D.C c V) w4) := by rw [hw4]; exact HSV.out.drewN q4
                  clear hw4 HSV
                  obtain ⟨r', hr'⟩ : ∃ r', r' = gp * D.C := ⟨_, rfl⟩
                  rw [← hr'] at hrr ⊢
                  have HR' : Hid (r' = gp * D.C) := hr'
                  clear hr'
                  go_wp2
                  go_loopw [101] (fun i wr => ∃ j : Nat, j ≤ D.C ∧ i = .int .i64 j ∧ Hid (St D A (some ⟨gb, 0, none⟩) gc gb cb (r + D.C) cc sb w G (cv r D.C c (fun i => if i < j then max (V i) (c (r' + i)) else V i)) wr)) (fun i _ => D.C - (intOf i).toNat)
                  case atStart => exact ⟨0, Nat.zero_le _, rfl, by unfold Hid; simpa using HS4.out⟩
                  case round =>
                    clear HS4
                    obtain ⟨j, hj, rfl, HST⟩ := hrel
                    by_cases hjl : j < D.C
                    · have dj : decide ((j : Int) < (D.C : Int)) = true := decide_eq_true (by omega)
                      have g1 := HST.out.clk.cell (i := r' + j) (by omega)
                      have g2 := HST.out.clk.cell (i := r + j) (by omega)
                      have f2 := HST.out.clk.frozen (r + j)
                      simp only [iv] at g1 g2
                      rw [cv_low (by omega)] at g1
                      rw [cv_row hjl, if_neg (Nat.lt_irrefl j)] at g2
                      generalize hca : c (r' + j) = ca at *
                      generalize hva : V j = va at *
                      have HCA : Hid (c (r' + j) = ca) := hca
                      have HVA : Hid (V j = va) := hva
                      clear hca hva
                      go_wp2
                      go_roundw
                      case rel => exact ⟨j + 1, by omega, by go_num, by
                        have h := HST.out.setC (r + j) (max va ca)
                        have hmx : max va ca = if va < ca then ca else va := by split <;> omega
                        have hs := cv_step (r := r) (r' := r') (c := c) (V := V) hjl
                        rw [HCA.out, HVA.out] at hs
                        rw [hs, hmx] at h
                        exact h⟩
                      case measure => simp [intOf]; omega
                    · have dj : decide ((j : Int) < (D.C : Int)) = false := decide_eq_false (by omega)
                      have hjC : j = D.C := by omega
                      have HJ : Hid (j = D.C) := hjC
                      clear hjC
                      go_wp2
                      go_roundw
                      case rel => exact ⟨e + 1, by omega, by go_num, by
                        have h := HST.out
                        rw [HJ.out, cv_je (C := D.C) (r := r) (c := c) (k := (k : Int)) HGP.out (by omega) HR'.out] at h
                        rw [HNX.out]
                        exact h⟩
                      case measure => simp [intOf]; omega
        · have dt : decide ((u : Int) < (t : Int)) = false := decide_eq_false (by omega)
          have hut : u = t := by omega
          subst hut
          go_wp2
          go_end0
          have hfin := HST.out
          rw [HG.out] at hfin
          exact ⟨rfl, hfin⟩

end Go.Proofs.Qxb6604061a
