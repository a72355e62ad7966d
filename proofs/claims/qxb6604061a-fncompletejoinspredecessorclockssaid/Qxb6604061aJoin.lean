import Derived.Test.Qxb6604061aGuard1
import Derived.Test.Qxb6604061aJoinPlain
namespace Go.Proofs.Qxb6604061a
open Go.RowKit

/-- Where the rows lie that the check reads. -/
structure JA where
  xa : Option Addr
  xo : Option Addr
  ca : Option Addr
  ia : Option Addr
  ba : Option Addr
  sa : Option Addr
  g0 : Option Addr
  k0 : Option Addr
  ma : Option Addr
  im : Option Addr
  ga : Option Addr
  za : Option Addr

structure JR (K : Nat → Prop) (D : Hist) (g c : Nat → Int) (mem : Nat → Nat) (im : Nat → Bool) (G Z : Nat → Int) (m r : Nat) (A : JA) (w : World) : Prop where
  s : VRow K w A.xa D.n (sv D.s)
  o : VRow K w A.xo D.n (bv D.o)
  cl : VRow K w A.ca D.n (iv D.cl)
  ix : VRow K w A.ia D.n (iv D.ix)
  be : VRow K w A.ba D.n (iv D.be)
  so : VRow K w A.sa D.n (iv D.so)
  g : VRow K w A.g0 D.n (iv g)
  c : VRow K w A.k0 r (iv c)
  m : VRow K w A.ma m (iv fun t => (mem t : Int))
  im : VRow K w A.im D.n (bv im)
  G : VRow K w A.ga D.n (iv G)
  Z : VRow K w A.za (r + D.C) (iv Z)

theorem JR.kept {K : Nat → Prop} {D : Hist} {g c : Nat → Int} {mem : Nat → Nat} {im : Nat → Bool} {G Z : Nat → Int} {m r : Nat} {A : JA} {w w' : World} (h : JR K D g c mem im G Z m r A w) (hk : Kept K w w') : JR K D g c mem im G Z m r A w' :=
  ⟨h.s.kept hk, h.o.kept hk, h.cl.kept hk, h.ix.kept hk, h.be.kept hk, h.so.kept hk, h.g.kept hk, h.c.kept hk, h.m.kept hk, h.im.kept hk, h.G.kept hk, h.Z.kept hk⟩

theorem vpick {K : Nat → Prop} {w : World} {b off n : Nat} {f : Nat → Value} (hv : VRow K w (some ⟨b, off, none⟩) n f) {x : Nat} (hx : x < n) : w.cell? ⟨b, off + x, none⟩ = some (f x) := by
  obtain ⟨b1, o1, _, e1, e2⟩ := hv x hx
  simp only [Option.some.injEq, Addr.mk.injEq, and_true] at e1
  obtain ⟨rfl, rfl⟩ := e1
  exact e2

theorem vat {K : Nat → Prop} {w : World} {a : Option Addr} {n : Nat} {f : Nat → Value} (hv : VRow K w a n f) (hn : 0 < n) : ∃ b off, a = some ⟨b, off, none⟩ := by
  obtain ⟨b, off, _, e, _⟩ := hv 0 hn
  exact ⟨b, off, e⟩

set_option maxRecDepth 10000 in
set_option maxHeartbeats 8000000 in
theorem join14 (D : Hist) (A : JA) (g c : Nat → Int) (mem : Nat → Nat) (im : Nat → Bool) (m k r gc cc : Nat) (w : World)
    (hjr : JR (· < w.heap.size) D g c mem im (gs g k mem m) (cv r D.C c (js D c (gs g k mem m) k mem m)) m r A w) (hm : Mem D g k m mem) (him : ∀ x, x < D.n → (im x = true ↔ ∃ u, u < m ∧ mem u = x))
    (hr : r = k * D.C) (hC : 1 ≤ D.C) (hC2 : D.C ≤ 65536) (hn : D.n ≤ 262144) (hmm : m ≤ 262144) (hrl : r ≤ 262144) :
    Calls Try.prog 14 #[.slice A.xa D.n D.n, .slice A.xo D.n D.n, .int .i64 (D.C : Int), .slice A.ca D.n D.n, .slice A.ia D.n D.n, .slice A.ba D.n D.n, .slice A.sa D.n D.n, .slice A.g0 D.n D.n, .slice A.k0 r r, .slice A.ma m m, .slice A.im D.n D.n, .int .i64 (k : Int), .slice A.ga D.n gc, .slice A.za (r + D.C) cc] w (LawPost w) := by
  obtain ⟨G, hG⟩ : ∃ G, G = gs g k mem m := ⟨_, rfl⟩
  rw [← hG] at hjr
  obtain ⟨v, hv⟩ : ∃ v, v = js D c G k mem m := ⟨_, rfl⟩
  rw [← hv] at hjr
  have HJ : Hid (JR (· < w.heap.size) D g c mem im G (cv r D.C c v) m r A w) := hjr
  have HG : Hid (G = gs g k mem m) := hG
  have HV : Hid (v = js D c G k mem m) := hv
  have HM : Hid (Mem D g k m mem) := hm
  have HI : Hid (∀ x, x < D.n → (im x = true ↔ ∃ u, u < m ∧ mem u = x)) := him
  have HRK : Hid (r = k * D.C) := hr
  have hkr : k ≤ r := by rw [hr]; exact Nat.le_mul_of_pos_right k hC
  have hkc : (k : Int) * (D.C : Int) = (r : Int) := by rw [hr]; exact (Int.natCast_mul _ _).symm
  have GM : Hid (∀ x, x < D.n → im x = true → G x = k) := fun x hx h => by rw [HG.out]; exact gs_mem g k mem m x ((HI.out x hx).1 h)
  have GN : Hid (∀ x, x < D.n → im x = false → G x = g x) := fun x hx h => by rw [HG.out]; exact gs_not g k mem m x (fun he => by have := (HI.out x hx).2 he; rw [h] at this; cases this)
  clear hjr hG hv hm him hr
  obtain ⟨nb, hnb⟩ : ∃ nb, nb = w.heap.size := ⟨_, rfl⟩
  have HNB : Hid (nb = w.heap.size) := hnb
  rw [← hnb] at HJ
  clear hnb
  obtain ⟨xa, xo, ca, ia, ba, sa, g0, k0, ma, ima, ga, za⟩ := A
  go_enter Try.func14, Try.ntmps14
  go_wp2
  go_loopw [30] (fun i wr => ∃ t : Nat, t ≤ D.n ∧ i = .int .i64 t ∧ Hid (Kept (· < nb) w wr ∧ wr.heap.size = nb)) (fun i _ => D.n - (intOf i).toNat)
  case atStart => exact ⟨0, Nat.zero_le _, rfl, Kept.refl _ _, HNB.out.symm⟩
  case round =>
    obtain ⟨t, ht, rfl, HW⟩ := hrel
    by_cases hlt : t < D.n
    · have dt : decide ((t : Int) < (D.n : Int)) = true := decide_eq_true (by omega)
      obtain ⟨b1, o1, -, ea, e1⟩ := (HJ.out.kept HW.out.1).g t hlt
      obtain ⟨b2, o2, -, eb, e2⟩ := (HJ.out.kept HW.out.1).im t hlt
      obtain ⟨b3, o3, -, ec, e3⟩ := (HJ.out.kept HW.out.1).G t hlt
      simp only at ea eb ec
      subst ea eb ec
      simp only [iv, bv] at e1 e2 e3
      cases hi : im t with
      | true =>
        rw [hi] at e2
        rw [GM.out t hlt hi] at e3
        clear hi
        go_wp2
        go_roundw
        case rel => exact ⟨t + 1, by omega, by go_num, HW.out⟩
        case measure => simp [intOf]; omega
      | false =>
        rw [hi] at e2
        rw [GN.out t hlt hi] at e3
        clear hi
        go_wp2
        go_roundw
        case rel => exact ⟨t + 1, by omega, by go_num, HW.out⟩
        case measure => simp [intOf]; omega
    have dt : decide ((t : Int) < (D.n : Int)) = false := decide_eq_false (by omega)
    go_wp2
    clear dt hlt ht
    go_loopw [33] (fun i wr => ∃ t : Nat, t ≤ r ∧ i = .int .i64 t ∧ Hid (Kept (· < nb) w wr ∧ wr.heap.size = nb)) (fun i _ => r - (intOf i).toNat)
    case atStart => exact ⟨0, Nat.zero_le _, rfl, HW.out⟩
    case round =>
      clear HW
      obtain ⟨t2, ht, rfl, HW⟩ := hrel
      by_cases hlt : t2 < r
      · have dt : decide ((t2 : Int) < (r : Int)) = true := decide_eq_true (by omega)
        obtain ⟨b1, o1, -, ea, e1⟩ := (HJ.out.kept HW.out.1).c t2 hlt
        obtain ⟨b2, o2, -, eb, e2⟩ := (HJ.out.kept HW.out.1).Z t2 (by omega)
        simp only at ea eb
        subst ea eb
        simp only [iv] at e1 e2
        rw [cv_low hlt] at e2
        have d2 : decide ((t2 : Int) < (r : Int) + (D.C : Int)) = true := decide_eq_true (by omega)
        go_upto_region 18 with fail
        go_quiet (fail)
        go_wp2
        go_roundw
        case rel => exact ⟨t2 + 1, by omega, by go_num, ⟨HW.out.1.os, HW.out.1.tape, HW.out.1.output, HW.out.1.size, HW.out.1.block⟩, HW.out.2⟩
        case measure => simp [intOf]; omega
      have dt : decide ((t2 : Int) < (r : Int)) = false := decide_eq_false (by omega)
      have hmk := run_make_row' (P := Try.prog) 23 4 _ 1 Try.underlying23 Try.info4 rfl .i64 .i64 D.C (by omega) (by omega)
      go_wp2
      clear hmk dt hlt ht
      rw [HW.out.2]
      have HK0 : Hid (Kp nb D.C w (fun _ => false) (wr.alloc (.cells (madeCells #[.bool false] D.C) 4))) := ⟨HW.out.1.trans ⟨rfl, rfl, rfl, by simp, fun b hb => Below.heap_alloc _ _ _ (by rw [HW.out.2]; exact hb)⟩, by have h := World.rowIs_made wr (.bool false) D.C 4; rw [HW.out.2] at h; exact h⟩
      clear HW
      obtain ⟨bz, oz, hza⟩ := vat HJ.out.Z (by omega)
      simp only at hza
      subst hza
      have HV0 : Hid (∀ y, 0 ≤ v y) := fun y => by rw [HV.out]; exact js_nonneg mem m y
      have ZC : Hid (∀ wx, Kept (· < nb) w wx → ∀ y, y < D.C → wx.cell? ⟨bz, oz + (r + y), none⟩ = some (.int .i32 (v y))) := fun wx hk y hy => by
        have h := vpick (HJ.out.kept hk).Z (x := r + y) (by omega)
        simp only [iv] at h
        rw [cv_row hy] at h
        exact h
      go_loopw [35] (fun i wx => ∃ (j : Nat) (hit : Nat → Bool), j ≤ D.C ∧ i = .int .i64 j ∧ Hid (Kp nb D.C w hit wx) ∧ Hid (∀ y, y < j → v y = 0 → hit y = true)) (fun i _ => D.C - (intOf i).toNat)
      case atStart => exact ⟨0, _, Nat.zero_le _, rfl, HK0.out, fun y hy => absurd hy (by omega)⟩
      case round =>
        clear HK0
        obtain ⟨j, hit, hj, rfl, HKP, HH⟩ := hrel
        by_cases hjl : j < D.C
        · have dj : decide ((j : Int) < (D.C : Int)) = true := decide_eq_true (by omega)
          have e1 := ZC.out _ HKP.out.1 j hjl
          have g1 := HKP.out.2.cell hjl
          have f1 := HKP.out.2.frozen j
          simp only [bv] at g1
          have hv0 := HV0.out j
          obtain ⟨vj, hvj⟩ : ∃ vj, vj = v j := ⟨_, rfl⟩
          rw [← hvj] at e1 hv0
          have HVJ : Hid (vj = v j) := hvj
          clear hvj
          have d1 : decide (vj < 0) = false := decide_eq_false (by omega)
          have d2 : decide ((r : Int) + (j : Int) < (r : Int) + (D.C : Int)) = true := decide_eq_true (by omega)
          go_wp2
          go_roundw
          case rel => exact ⟨j + 1, _, by omega, by go_num, HKP.out.set j (vj == 0), fun y hy h0 => by
            by_cases e : y = j
            · subst e
              simp only [if_pos]
              rw [HVJ.out, h0]
              rfl
            · simp only [if_neg e]
              exact HH.out y (by omega) h0⟩
          case measure => simp [intOf]; omega
        have dj : decide ((j : Int) < (D.C : Int)) = false := decide_eq_false (by omega)
        have HH0 : Hid (∀ y, y < D.C → js D c G k mem 0 y = v y → hit y = true) := fun y hy h => HH.out y (by omega) h.symm
        go_wp2
        clear dj hjl hj HH
        go_loopw [37] (fun i wx => ∃ (t : Nat) (hit : Nat → Bool), t ≤ m ∧ i = .int .i64 t ∧ Hid (Kp nb D.C w hit wx) ∧ Hid (∀ y, y < D.C → js D c G k mem t y = v y → hit y = true)) (fun i _ => m - (intOf i).toNat)
        case atStart => exact ⟨0, hit, Nat.zero_le _, rfl, HKP.out, HH0.out⟩
        case round =>
          clear HKP HH0
          obtain ⟨t, hit, ht, rfl, HKP, HH⟩ := hrel
          by_cases hlt : t < m
          · have dt : decide ((t : Int) < (m : Int)) = true := decide_eq_true (by omega)
            have hq := HM.out.lt t hlt
            obtain ⟨bm, om, -, ea, e1⟩ := (HJ.out.kept HKP.out.1).m t hlt
            simp only at ea
            subst ea
            simp only [iv] at e1
            obtain ⟨q, hqm⟩ : ∃ q, q = mem t := ⟨_, rfl⟩
            rw [← hqm] at e1 hq
            have HQM : Hid (q = mem t) := hqm
            clear hqm
            have dq : decide ((q : Int) < (D.n : Int)) = true := decide_eq_true (by omega)
            have hn0 : 0 < D.n := by omega
            obtain ⟨bs, os, es⟩ := vat HJ.out.s hn0
            obtain ⟨bo, oo, eo⟩ := vat HJ.out.o hn0
            obtain ⟨bc, oc, ec⟩ := vat HJ.out.cl hn0
            obtain ⟨bi, oi, ei⟩ := vat HJ.out.ix hn0
            obtain ⟨bb, ob, eb⟩ := vat HJ.out.be hn0
            obtain ⟨br, or', er⟩ := vat HJ.out.so hn0
            obtain ⟨bg, og, eg⟩ := vat HJ.out.g hn0
            obtain ⟨bj, oj, ej⟩ := vat HJ.out.im hn0
            simp only at es eo ec ei eb er eg ej
            subst es eo ec ei eb er eg ej
            obtain ⟨e2, e3⟩ : wr.cell? ⟨bs, os + q, none⟩ = some (.string (D.s q)) ∧ wr.cell? ⟨bo, oo + q, none⟩ = some (.bool (D.o q)) := ⟨vpick (HJ.out.kept HKP.out.1).s hq, vpick (HJ.out.kept HKP.out.1).o hq⟩
            go_upto_region 32 with fail
            go_cut [136] from 118 to 217 (fun cc wx => cc = .bool (ordb (D.s q) (D.o q)) ∧ Hid (Kp nb D.C w hit wx))
            case first =>
              have HCALL : Hid (∀ w, Calls Try.prog 17 #[.string (D.s q), .bool (D.o q)] w (fun e w' => e = .returned (.bool (ordb (D.s q) (D.o q))) ∧ w' = w)) := fun w => ordered17 (D.s q) (D.o q) w
              go_quiet (first | (go_at_call 17; exact Calls.quiet_of_same (HCALL.out _)))
              go_wp2
              go_meet
              exact ⟨rfl, HKP.out.drewN _⟩
            case rest =>
              clear HKP e2 e3 e1 dt
              obtain ⟨rfl, HKP⟩ := hcut
              go_upto_if 136 with fail
              go_cut [39, 40] from 118 to 217 (fun _ _ wx => Hid (∃ hit, Kp nb D.C w hit wx ∧ ∀ y, y < D.C → (js D c G k mem t y = v y ∨ Own D q y (v y)) → hit y = true))
              case first =>
                cases hob : ordb (D.s q) (D.o q) with
                | false =>
                  have HOB : Hid (ordb (D.s q) (D.o q) = false) := hob
                  clear hob
                  go_wp2
                  go_meet
                  exact ⟨hit, HKP.out, fun y hy h => h.elim (HH.out y hy) (fun h => by have := h.1; rw [HOB.out] at this; cases this)⟩
                | true =>
                  have HOB : Hid (ordb (D.s q) (D.o q) = true) := hob
                  obtain ⟨c1, c2⟩ := HM.out.cl t hlt (by rw [← HQM.out]; exact hob)
                  rw [← HQM.out] at c1 c2
                  clear hob
                  obtain ⟨cn, hcn⟩ := Int.eq_ofNat_of_zero_le c1
                  have hcC : cn < D.C := by omega
                  have e4 : wc.cell? ⟨bc, oc + q, none⟩ = some (.int .i32 (D.cl q)) := vpick (HJ.out.kept HKP.out.1).cl hq
                  have e5 : wc.cell? ⟨bi, oi + q, none⟩ = some (.int .i32 (D.ix q)) := vpick (HJ.out.kept HKP.out.1).ix hq
                  rw [hcn] at e4
                  have e6 := ZC.out _ HKP.out.1 cn hcC
                  have hle : D.ix q ≤ v cn := by
                    rw [HV.out]
                    exact js_own mem m t cn hlt _ (by rw [← HQM.out]; exact ⟨HOB.out, hcn.symm, rfl⟩)
                  have HCN : Hid (D.cl q = (cn : Int)) := hcn
                  clear hcn c1 c2
                  obtain ⟨iq, hiq⟩ : ∃ iq, iq = D.ix q := ⟨_, rfl⟩
                  rw [← hiq] at e5 hle
                  have HIQ : Hid (iq = D.ix q) := hiq
                  obtain ⟨vc, hvc⟩ : ∃ vc, vc = v cn := ⟨_, rfl⟩
                  rw [← hvc] at e6 hle
                  have HVC : Hid (vc = v cn) := hvc
                  clear hiq hvc
                  have dc : decide ((cn : Int) < (D.C : Int)) = true := decide_eq_true (by omega)
                  have d2 : decide ((r : Int) + (cn : Int) < (r : Int) + (D.C : Int)) = true := decide_eq_true (by omega)
                  have d3 : decide (vc < iq) = false := decide_eq_false (by omega)
                  have g1 := HKP.out.2.cell hcC
                  have f1 := HKP.out.2.frozen cn
                  simp only [bv] at g1
                  by_cases heq : iq = vc
                  · have d4 : (iq == vc) = true := by simp only [beq_iff_eq]; exact heq
                    clear heq
                    go_wp2
                    go_meet
                    refine ⟨_, HKP.out.set cn true, fun y hy h => ?_⟩
                    by_cases e : y = cn
                    · simp only [if_pos e]
                    · simp only [if_neg e]
                      refine HH.out y hy (h.resolve_right (fun h => e ?_))
                      have h2 := h.2.1
                      rw [HCN.out] at h2
                      omega
                  · have d4 : (iq == vc) = false := by simp only [beq_eq_false_iff_ne]; exact heq
                    have HNE : Hid (iq ≠ vc) := heq
                    clear heq
                    go_wp2
                    go_meet
                    refine ⟨hit, HKP.out, fun y hy h => HH.out y hy (h.resolve_right (fun h => ?_))⟩
                    have h2 := h.2.1
                    rw [HCN.out] at h2
                    have h3 : y = cn := by omega
                    subst h3
                    exact HNE.out (by rw [HIQ.out, HVC.out]; exact h.2.2)
              case rest =>
                clear HKP HH
                obtain ⟨hit1, hkp, hh⟩ := hcut.out
                have HKP : Hid (Kp nb D.C w hit1 wc) := hkp
                have HH : Hid (∀ y, y < D.C → (js D c G k mem t y = v y ∨ Own D q y (v y)) → hit1 y = true) := hh
                clear hkp hh hcut
                go_wp2
                go_loopw [41] (fun e wx => ∃ (E : Nat) (hit : Nat → Bool), E ≤ 2 ∧ e = .int .i64 E ∧ Hid (Kp nb D.C w hit wx) ∧ Hid (∀ y, y < D.C → (js D c G k mem t y = v y ∨ Own D q y (v y) ∨ (0 < E ∧ Eg D.C c G k (D.be q) y (v y)) ∨ (1 < E ∧ Eg D.C c G k (D.so q) y (v y))) → hit y = true)) (fun e _ => 2 - (intOf e).toNat)
                case atStart => exact ⟨0, hit1, by omega, rfl, HKP.out, fun y hy h => HH.out y hy (by
                  rcases h with h | h | h | h
                  · exact .inl h
                  · exact .inr h
                  · exact absurd h.1 (by omega)
                  · exact absurd h.1 (by omega))⟩
                case round =>
                  clear HKP HH
                  obtain ⟨E, hit, hE, rfl, HKP, HH⟩ := hrel
                  by_cases hE2 : E = 2
                  · subst hE2
                    go_wp2
                    go_roundw
                    case rel => exact ⟨t + 1, hit, by omega, by go_num, HKP.out, fun y hy h => HH.out y hy (by
                      rcases js_cases mem t y (v y) h with h | h | h | h
                      · exact .inl h
                      · rw [← HQM.out] at h; exact .inr (.inl h)
                      · rw [← HQM.out] at h; exact .inr (.inr (.inl ⟨by omega, h⟩))
                      · rw [← HQM.out] at h; exact .inr (.inr (.inr ⟨by omega, h⟩)))⟩
                    case measure => simp [intOf]; omega
                  have hE1 : E = 0 ∨ E = 1 := by omega
                  clear hE hE2
                  have e4 : wr.cell? ⟨bb, ob + q, none⟩ = some (.int .i32 (D.be q)) := vpick (HJ.out.kept HKP.out.1).be hq
                  have e5 : wr.cell? ⟨br, or' + q, none⟩ = some (.int .i32 (D.so q)) := vpick (HJ.out.kept HKP.out.1).so hq
                  rcases hE1 with rfl | rfl
                  · have hok := HM.out.be t hlt
                    rw [← HQM.out] at hok
                    obtain ⟨z, hz⟩ : ∃ z, z = D.be q := ⟨_, rfl⟩
                    rw [← hz] at hok e4
                    have HZE : Hid (z = D.be q) := hz
                    have HOK : Hid (z < 0 ∨ (0 ≤ z ∧ z < D.n ∧ ((∃ x, x < m ∧ (mem x : Int) = z) ∨ (0 ≤ g z.toNat ∧ g z.toNat < k)))) := hok
                    clear hz hok
                    by_cases hz0 : z < 0
                    · have d0 : decide (z < 0) = true := decide_eq_true hz0
                      have HNO : Hid (∀ y, ¬ Eg D.C c G k (D.be q) y (v y)) := fun y h => h.1 (.inl (by rw [← HZE.out]; exact hz0))
                      go_wp2
                      go_roundw
                      case rel => exact ⟨1, hit, by omega, rfl, HKP.out, fun y hy h => by
                            rcases h with h | h | h | h
                            · exact HH.out y hy (.inl h)
                            · exact HH.out y hy (.inr (.inl h))
                            · exact absurd h.2 (HNO.out y)
                            · exact absurd h.1 (by omega)⟩
                      case measure => simp [intOf]
                    have d0 : decide (z < 0) = false := decide_eq_false hz0
                    obtain ⟨p, rfl⟩ := Int.eq_ofNat_of_zero_le (show 0 ≤ z by omega)
                    have hpl : p < D.n := by
                      rcases HOK.out with h | ⟨_, h, _⟩
                      · omega
                      · omega
                    have dp : decide ((p : Int) < (D.n : Int)) = true := decide_eq_true (by omega)
                    have g1 : wr.cell? ⟨bj, oj + p, none⟩ = some (.bool (im p)) := vpick (HJ.out.kept HKP.out.1).im hpl
                    cases hip : im p with
                    | true =>
                      rw [hip] at g1
                      have HNO : Hid (∀ y, ¬ Eg D.C c G k (D.be q) y (v y)) := fun y h => h.1 (.inr (by rw [← HZE.out, Int.toNat_natCast]; exact GM.out p hpl hip))
                      clear hip
                      go_wp2
                      go_roundw
                      case rel => exact ⟨1, hit, by omega, rfl, HKP.out, fun y hy h => by
                            rcases h with h | h | h | h
                            · exact HH.out y hy (.inl h)
                            · exact HH.out y hy (.inr (.inl h))
                            · exact absurd h.2 (HNO.out y)
                            · exact absurd h.1 (by omega)⟩
                      case measure => simp [intOf]
                    | false =>
                      rw [hip] at g1
                      have HGP : Hid (G p = g p) := GN.out p hpl hip
                      have hgr : 0 ≤ g p ∧ g p < k := by
                        rcases HOK.out with h | ⟨_, _, ⟨x, hx, h⟩ | h⟩
                        · omega
                        · have := (HI.out p hpl).2 ⟨x, hx, by omega⟩
                          rw [hip] at this
                          cases this
                        · rw [Int.toNat_natCast] at h; exact h
                      clear hip
                      have e6 : wr.cell? ⟨bg, og + p, none⟩ = some (.int .i32 (g p)) := vpick (HJ.out.kept HKP.out.1).g hpl
                      obtain ⟨gp, hgp⟩ := Int.eq_ofNat_of_zero_le hgr.1
                      have hgk : gp < k := by omega
                      rw [hgp] at e6
                      have HGP2 : Hid (G p = (gp : Int)) := by unfold Hid; rw [HGP.out, hgp]
                      clear hgp hgr
                      obtain ⟨r', hr'⟩ : ∃ r', r' = gp * D.C := ⟨_, rfl⟩
                      have hri : (gp : Int) * (D.C : Int) = (r' : Int) := by rw [hr']; exact (Int.natCast_mul _ _).symm
                      have hrr : r' + D.C ≤ r := by
                        have := Nat.mul_le_mul_right D.C (show gp + 1 ≤ k by omega)
                        rw [Nat.add_mul, Nat.one_mul, ← HRK.out, ← hr'] at this
                        exact this
                      have HEG : Hid (∀ y, Eg D.C c G k (D.be q) y (v y) → c (r' + y) = v y) := fun y h => by
                        have := h.2
                        rw [← HZE.out, Int.toNat_natCast, HGP2.out, Int.toNat_natCast, ← hr'] at this
                        exact this
                      have HLE : Hid (∀ y, c (r' + y) ≤ v y) := fun y => by
                        rw [HV.out]
                        refine js_be mem m t y hlt _ ?_
                        rw [← HQM.out, ← HZE.out]
                        refine ⟨?_, ?_⟩
                        · rw [Int.toNat_natCast, HGP2.out]
                          intro h
                          rcases h with h | h <;> omega
                        · rw [Int.toNat_natCast, HGP2.out, Int.toNat_natCast, ← hr']
                      clear hr'
                      obtain ⟨bk, ok, ek⟩ := vat HJ.out.c (by omega)
                      simp only at ek
                      subst ek
                      have CC : Hid (∀ wx, Kept (· < nb) w wx → ∀ y, y < D.C → wx.cell? ⟨bk, ok + (r' + y), none⟩ = some (.int .i32 (c (r' + y)))) := fun wx hk y hy => vpick (HJ.out.kept hk).c (x := r' + y) (by omega)
                      go_wp2
                      clear e4 e5 e6 g1
                      go_loopw [44] (fun i wx => ∃ (j : Nat) (hit : Nat → Bool), j ≤ D.C ∧ i = .int .i64 j ∧ Hid (Kp nb D.C w hit wx) ∧ Hid (∀ y, y < D.C → ((js D c G k mem t y = v y ∨ Own D q y (v y)) ∨ (y < j ∧ c (r' + y) = v y)) → hit y = true)) (fun i _ => D.C - (intOf i).toNat)
                      case atStart => exact ⟨0, hit, Nat.zero_le _, rfl, HKP.out, fun y hy h => HH.out y hy (by
                          rcases h with h | h
                          · rcases h with h | h
                            · exact .inl h
                            · exact .inr (.inl h)
                          · exact absurd h.1 (by omega))⟩
                      case round =>
                        clear HKP HH
                        obtain ⟨j, hit, hj, rfl, HKP, HL6⟩ := hrel
                        by_cases hjl : j < D.C
                        · have dj : decide ((j : Int) < (D.C : Int)) = true := decide_eq_true (by omega)
                          have e1 := CC.out _ HKP.out.1 j hjl
                          have e2 := ZC.out _ HKP.out.1 j hjl
                          have hle := HLE.out j
                          obtain ⟨cj, hcj⟩ : ∃ cj, cj = c (r' + j) := ⟨_, rfl⟩
                          obtain ⟨vj, hvj⟩ : ∃ vj, vj = v j := ⟨_, rfl⟩
                          rw [← hcj] at e1 hle
                          rw [← hvj] at e2 hle
                          have HCJ : Hid (cj = c (r' + j)) := hcj
                          have HVJ : Hid (vj = v j) := hvj
                          clear hcj hvj
                          have d2 : decide ((r : Int) + (j : Int) < (r : Int) + (D.C : Int)) = true := decide_eq_true (by omega)
                          have d3 : decide ((r' : Int) + (j : Int) < (r : Int)) = true := decide_eq_true (by omega)
                          have d5 : decide (vj < cj) = false := decide_eq_false (by omega)
                          have g1 := HKP.out.2.cell hjl
                          have f1 := HKP.out.2.frozen j
                          simp only [bv] at g1
                          by_cases heq : cj = vj
                          · have d4 : (cj == vj) = true := by simp only [beq_iff_eq]; exact heq
                            clear heq
                            go_wp2
                            go_roundw
                            case rel => exact ⟨j + 1, _, by omega, by go_num, HKP.out.set j true, fun y hy h => by
                              by_cases e : y = j
                              · simp only [if_pos e]
                              · simp only [if_neg e]
                                refine HL6.out y hy ?_
                                rcases h with h | h
                                · exact .inl h
                                · exact .inr ⟨by omega, h.2⟩⟩
                            case measure => simp [intOf]; omega
                          · have d4 : (cj == vj) = false := by simp only [beq_eq_false_iff_ne]; exact heq
                            have HNE : Hid (cj ≠ vj) := heq
                            clear heq
                            go_wp2
                            go_roundw
                            case rel => exact ⟨j + 1, hit, by omega, by go_num, HKP.out, fun y hy h => HL6.out y hy (by
                              rcases h with h | h
                              · exact .inl h
                              · by_cases e : y = j
                                · subst e
                                  exact absurd (by rw [HCJ.out, HVJ.out]; exact h.2) HNE.out
                                · exact .inr ⟨by omega, h.2⟩)⟩
                            case measure => simp [intOf]; omega
                        · have dj : decide ((j : Int) < (D.C : Int)) = false := decide_eq_false (by omega)
                          go_wp2
                          go_roundw
                          case rel => exact ⟨1, hit, by omega, rfl, HKP.out, fun y hy h => by
                            rcases h with h | h | h | h
                            · exact HL6.out y hy (.inl (.inl h))
                            · exact HL6.out y hy (.inl (.inr h))
                            · exact HL6.out y hy (.inr ⟨by omega, HEG.out y h.2⟩)
                            · exact absurd h.1 (by omega)⟩
                          case measure => simp [intOf]
                  · have hok := HM.out.so t hlt
                    rw [← HQM.out] at hok
                    obtain ⟨z, hz⟩ : ∃ z, z = D.so q := ⟨_, rfl⟩
                    rw [← hz] at hok e5
                    have HZE : Hid (z = D.so q) := hz
                    have HOK : Hid (z < 0 ∨ (0 ≤ z ∧ z < D.n ∧ ((∃ x, x < m ∧ (mem x : Int) = z) ∨ (0 ≤ g z.toNat ∧ g z.toNat < k)))) := hok
                    clear hz hok
                    by_cases hz0 : z < 0
                    · have d0 : decide (z < 0) = true := decide_eq_true hz0
                      have HNO : Hid (∀ y, ¬ Eg D.C c G k (D.so q) y (v y)) := fun y h => h.1 (.inl (by rw [← HZE.out]; exact hz0))
                      go_wp2
                      go_roundw
                      case rel => exact ⟨2, hit, by omega, rfl, HKP.out, fun y hy h => by
                            rcases h with h | h | h | h
                            · exact HH.out y hy (.inl h)
                            · exact HH.out y hy (.inr (.inl h))
                            · exact HH.out y hy (.inr (.inr (.inl ⟨by omega, h.2⟩)))
                            · exact absurd h.2 (HNO.out y)⟩
                      case measure => simp [intOf]
                    have d0 : decide (z < 0) = false := decide_eq_false hz0
                    obtain ⟨p, rfl⟩ := Int.eq_ofNat_of_zero_le (show 0 ≤ z by omega)
                    have hpl : p < D.n := by
                      rcases HOK.out with h | ⟨_, h, _⟩
                      · omega
                      · omega
                    have dp : decide ((p : Int) < (D.n : Int)) = true := decide_eq_true (by omega)
                    have g1 : wr.cell? ⟨bj, oj + p, none⟩ = some (.bool (im p)) := vpick (HJ.out.kept HKP.out.1).im hpl
                    cases hip : im p with
                    | true =>
                      rw [hip] at g1
                      have HNO : Hid (∀ y, ¬ Eg D.C c G k (D.so q) y (v y)) := fun y h => h.1 (.inr (by rw [← HZE.out, Int.toNat_natCast]; exact GM.out p hpl hip))
                      clear hip
                      go_wp2
                      go_roundw
                      case rel => exact ⟨2, hit, by omega, rfl, HKP.out, fun y hy h => by
                            rcases h with h | h | h | h
                            · exact HH.out y hy (.inl h)
                            · exact HH.out y hy (.inr (.inl h))
                            · exact HH.out y hy (.inr (.inr (.inl ⟨by omega, h.2⟩)))
                            · exact absurd h.2 (HNO.out y)⟩
                      case measure => simp [intOf]
                    | false =>
                      rw [hip] at g1
                      have HGP : Hid (G p = g p) := GN.out p hpl hip
                      have hgr : 0 ≤ g p ∧ g p < k := by
                        rcases HOK.out with h | ⟨_, _, ⟨x, hx, h⟩ | h⟩
                        · omega
                        · have := (HI.out p hpl).2 ⟨x, hx, by omega⟩
                          rw [hip] at this
                          cases this
                        · rw [Int.toNat_natCast] at h; exact h
                      clear hip
                      have e6 : wr.cell? ⟨bg, og + p, none⟩ = some (.int .i32 (g p)) := vpick (HJ.out.kept HKP.out.1).g hpl
                      obtain ⟨gp, hgp⟩ := Int.eq_ofNat_of_zero_le hgr.1
                      have hgk : gp < k := by omega
                      rw [hgp] at e6
                      have HGP2 : Hid (G p = (gp : Int)) := by unfold Hid; rw [HGP.out, hgp]
                      clear hgp hgr
                      obtain ⟨r', hr'⟩ : ∃ r', r' = gp * D.C := ⟨_, rfl⟩
                      have hri : (gp : Int) * (D.C : Int) = (r' : Int) := by rw [hr']; exact (Int.natCast_mul _ _).symm
                      have hrr : r' + D.C ≤ r := by
                        have := Nat.mul_le_mul_right D.C (show gp + 1 ≤ k by omega)
                        rw [Nat.add_mul, Nat.one_mul, ← HRK.out, ← hr'] at this
                        exact this
                      have HEG : Hid (∀ y, Eg D.C c G k (D.so q) y (v y) → c (r' + y) = v y) := fun y h => by
                        have := h.2
                        rw [← HZE.out, Int.toNat_natCast, HGP2.out, Int.toNat_natCast, ← hr'] at this
                        exact this
                      have HLE : Hid (∀ y, c (r' + y) ≤ v y) := fun y => by
                        rw [HV.out]
                        refine js_so mem m t y hlt _ ?_
                        rw [← HQM.out, ← HZE.out]
                        refine ⟨?_, ?_⟩
                        · rw [Int.toNat_natCast, HGP2.out]
                          intro h
                          rcases h with h | h <;> omega
                        · rw [Int.toNat_natCast, HGP2.out, Int.toNat_natCast, ← hr']
                      clear hr'
                      obtain ⟨bk, ok, ek⟩ := vat HJ.out.c (by omega)
                      simp only at ek
                      subst ek
                      have CC : Hid (∀ wx, Kept (· < nb) w wx → ∀ y, y < D.C → wx.cell? ⟨bk, ok + (r' + y), none⟩ = some (.int .i32 (c (r' + y)))) := fun wx hk y hy => vpick (HJ.out.kept hk).c (x := r' + y) (by omega)
                      go_wp2
                      clear e4 e5 e6 g1
                      go_loopw [44] (fun i wx => ∃ (j : Nat) (hit : Nat → Bool), j ≤ D.C ∧ i = .int .i64 j ∧ Hid (Kp nb D.C w hit wx) ∧ Hid (∀ y, y < D.C → ((js D c G k mem t y = v y ∨ Own D q y (v y) ∨ Eg D.C c G k (D.be q) y (v y)) ∨ (y < j ∧ c (r' + y) = v y)) → hit y = true)) (fun i _ => D.C - (intOf i).toNat)
                      case atStart => exact ⟨0, hit, Nat.zero_le _, rfl, HKP.out, fun y hy h => HH.out y hy (by
                          rcases h with h | h
                          · rcases h with h | h | h
                            · exact .inl h
                            · exact .inr (.inl h)
                            · exact .inr (.inr (.inl ⟨by omega, h⟩))
                          · exact absurd h.1 (by omega))⟩
                      case round =>
                        clear HKP HH
                        obtain ⟨j, hit, hj, rfl, HKP, HL6⟩ := hrel
                        by_cases hjl : j < D.C
                        · have dj : decide ((j : Int) < (D.C : Int)) = true := decide_eq_true (by omega)
                          have e1 := CC.out _ HKP.out.1 j hjl
                          have e2 := ZC.out _ HKP.out.1 j hjl
                          have hle := HLE.out j
                          obtain ⟨cj, hcj⟩ : ∃ cj, cj = c (r' + j) := ⟨_, rfl⟩
                          obtain ⟨vj, hvj⟩ : ∃ vj, vj = v j := ⟨_, rfl⟩
                          rw [← hcj] at e1 hle
                          rw [← hvj] at e2 hle
                          have HCJ : Hid (cj = c (r' + j)) := hcj
                          have HVJ : Hid (vj = v j) := hvj
                          clear hcj hvj
                          have d2 : decide ((r : Int) + (j : Int) < (r : Int) + (D.C : Int)) = true := decide_eq_true (by omega)
                          have d3 : decide ((r' : Int) + (j : Int) < (r : Int)) = true := decide_eq_true (by omega)
                          have d5 : decide (vj < cj) = false := decide_eq_false (by omega)
                          have g1 := HKP.out.2.cell hjl
                          have f1 := HKP.out.2.frozen j
                          simp only [bv] at g1
                          by_cases heq : cj = vj
                          · have d4 : (cj == vj) = true := by simp only [beq_iff_eq]; exact heq
                            clear heq
                            go_wp2
                            go_roundw
                            case rel => exact ⟨j + 1, _, by omega, by go_num, HKP.out.set j true, fun y hy h => by
                              by_cases e : y = j
                              · simp only [if_pos e]
                              · simp only [if_neg e]
                                refine HL6.out y hy ?_
                                rcases h with h | h
                                · exact .inl h
                                · exact .inr ⟨by omega, h.2⟩⟩
                            case measure => simp [intOf]; omega
                          · have d4 : (cj == vj) = false := by simp only [beq_eq_false_iff_ne]; exact heq
                            have HNE : Hid (cj ≠ vj) := heq
                            clear heq
                            go_wp2
                            go_roundw
                            case rel => exact ⟨j + 1, hit, by omega, by go_num, HKP.out, fun y hy h => HL6.out y hy (by
                              rcases h with h | h
                              · exact .inl h
                              · by_cases e : y = j
                                · subst e
                                  exact absurd (by rw [HCJ.out, HVJ.out]; exact h.2) HNE.out
                                · exact .inr ⟨by omega, h.2⟩)⟩
                            case measure => simp [intOf]; omega
                        · have dj : decide ((j : Int) < (D.C : Int)) = false := decide_eq_false (by omega)
                          go_wp2
                          go_roundw
                          case rel => exact ⟨2, hit, by omega, rfl, HKP.out, fun y hy h => by
                            rcases h with h | h | h | h
                            · exact HL6.out y hy (.inl (.inl h))
                            · exact HL6.out y hy (.inl (.inr (.inl h)))
                            · exact HL6.out y hy (.inl (.inr (.inr h.2)))
                            · exact HL6.out y hy (.inr ⟨by omega, HEG.out y h.2⟩)⟩
                          case measure => simp [intOf]
          have dt : decide ((t : Int) < (m : Int)) = false := decide_eq_false (by omega)
          have htm : t = m := by omega
          have HAL : Hid (∀ y, y < D.C → hit y = true) := fun y hy => HH.out y hy (by rw [HV.out, htm])
          clear HH
          go_wp2
          go_loopw [47] (fun i wx => ∃ (j : Nat), j ≤ D.C ∧ i = .int .i64 j ∧ Hid (Kp nb D.C w hit wx)) (fun i _ => D.C - (intOf i).toNat)
          case atStart => exact ⟨0, Nat.zero_le _, rfl, HKP.out⟩
          case round =>
            clear HKP
            obtain ⟨j, hj, rfl, HKP⟩ := hrel
            by_cases hjl : j < D.C
            · have dj : decide ((j : Int) < (D.C : Int)) = true := decide_eq_true (by omega)
              have g1 := HKP.out.2.cell hjl
              simp only [bv] at g1
              rw [HAL.out j hjl] at g1
              go_wp2
              go_roundw
              case rel => exact ⟨j + 1, by omega, by go_num, HKP.out⟩
              case measure => simp [intOf]; omega
            · have dj : decide ((j : Int) < (D.C : Int)) = false := decide_eq_false (by omega)
              go_wp2
              go_ret
              exact ⟨rfl, by have h := HKP.out.1; rw [HNB.out] at h; exact h.below⟩

end Go.Proofs.Qxb6604061a
