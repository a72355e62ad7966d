import Derived.Test.Qxb6604061aPh
import Derived.Deep.LoopGhost
import Derived.Deep.CutRange
namespace Go.Proofs.Qxb6604061a
open Go.RowKit

set_option maxRecDepth 10000 in
set_option maxHeartbeats 8000000 in
theorem law4 (a ao a0 a1 a2 a3 : Option Addr) (n c no co n0 c0 n1 c1 n2 c2 n3 c3 : Nat) (X : Int) (s : Nat → ByteArray) (o : Nat → Bool) (cl ix be so : Nat → Int) (w : World)
    (hn : n ≤ maxLen) (hno : no ≤ maxLen) (hn0 : n0 ≤ maxLen) (hn1 : n1 ≤ maxLen) (hn2 : n2 ≤ maxLen) (hn3 : n3 ≤ maxLen)
    (hs : VRow (· < w.heap.size) w a n (sv s)) (ho : VRow (· < w.heap.size) w ao no (bv o)) (hcl : VRow (· < w.heap.size) w a0 n0 (iv cl)) (hix : VRow (· < w.heap.size) w a1 n1 (iv ix)) (hbe : VRow (· < w.heap.size) w a2 n2 (iv be)) (hso : VRow (· < w.heap.size) w a3 n3 (iv so))
    (en : a = none → n = 0) (eno : ao = none → no = 0) (en0 : a0 = none → n0 = 0) (en1 : a1 = none → n1 = 0) (en2 : a2 = none → n2 = 0) (en3 : a3 = none → n3 = 0) (hrg : ∀ i, i < n0 → -2147483648 ≤ cl i ∧ cl i ≤ 2147483647) :
    Calls Try.prog 4 #[.slice a n c, .slice ao no co, .int .i64 X, .slice a0 n0 c0, .slice a1 n1 c1, .slice a2 n2 c2, .slice a3 n3 c3] w (LawPost w) := by
  have HS : Hid (VRow (· < w.heap.size) w a n (sv s)) := hs
  have HO : Hid (VRow (· < w.heap.size) w ao no (bv o)) := ho
  have HC : Hid (VRow (· < w.heap.size) w a0 n0 (iv cl)) := hcl
  have HI : Hid (VRow (· < w.heap.size) w a1 n1 (iv ix)) := hix
  have HB : Hid (VRow (· < w.heap.size) w a2 n2 (iv be)) := hbe
  have HR : Hid (VRow (· < w.heap.size) w a3 n3 (iv so)) := hso
  have ES : Hid (a = none → n = 0) := en
  have EO : Hid (ao = none → no = 0) := eno
  have EC : Hid (a0 = none → n0 = 0) := en0
  have EI : Hid (a1 = none → n1 = 0) := en1
  have EB : Hid (a2 = none → n2 = 0) := en2
  have ER : Hid (a3 = none → n3 = 0) := en3
  have HG : Hid (∀ i, i < n0 → -2147483648 ≤ cl i ∧ cl i ≤ 2147483647) := hrg
  have M0 : Hid (n ≤ maxLen ∧ no ≤ maxLen ∧ n0 ≤ maxLen ∧ n1 ≤ maxLen ∧ n2 ≤ maxLen ∧ n3 ≤ maxLen) := ⟨hn, hno, hn0, hn1, hn2, hn3⟩
  clear hs ho hcl hix hbe hso en eno en0 en1 en2 en3 hrg
  unfold maxLen at hn hno hn0 hn1 hn2 hn3
  go_enter Try.func4, Try.ntmps4
  go_wp2_with fail
  refine (bytes15 w.heap.size a ao a0 a1 a2 a3 n c no co n0 c0 n1 c1 n2 c2 n3 c3 X s w M0.out.1 HS.out).mono ?_
  rintro e w' ⟨x, rfl, rfl⟩
  cases x with
  | false =>
    go_wp2
    go_ret
    exact ⟨rfl, Below.refl _ _⟩
  | true =>
    by_cases qn : 1024 < n
    · go_wp2
      go_ret
      exact ⟨rfl, Below.refl _ _⟩
    have dn : decide ((1024 : Int) < (n : Int)) = false := decide_eq_false (by omega)
    by_cases qno : 1024 < no
    · go_wp2
      go_ret
      exact ⟨rfl, Below.refl _ _⟩
    have dno : decide ((1024 : Int) < (no : Int)) = false := decide_eq_false (by omega)
    by_cases qn0 : 1024 < n0
    · go_wp2
      go_ret
      exact ⟨rfl, Below.refl _ _⟩
    have dn0 : decide ((1024 : Int) < (n0 : Int)) = false := decide_eq_false (by omega)
    by_cases qn1 : 1024 < n1
    · go_wp2
      go_ret
      exact ⟨rfl, Below.refl _ _⟩
    have dn1 : decide ((1024 : Int) < (n1 : Int)) = false := decide_eq_false (by omega)
    by_cases qn2 : 1024 < n2
    · go_wp2
      go_ret
      exact ⟨rfl, Below.refl _ _⟩
    have dn2 : decide ((1024 : Int) < (n2 : Int)) = false := decide_eq_false (by omega)
    by_cases qn3 : 1024 < n3
    · go_wp2
      go_ret
      exact ⟨rfl, Below.refl _ _⟩
    have dn3 : decide ((1024 : Int) < (n3 : Int)) = false := decide_eq_false (by omega)
    go_wp2_with fail
    clear dn dno dn0 dn1 dn2 dn3
    have M1 : Hid (n ≤ 1024) := by unfold Hid; omega
    clear hn hno hn0 hn1 hn2 hn3 qn qno qn0 qn1 qn2 qn3
    refine (size6 w'.heap.size a ao a0 a1 a2 a3 none none none n c no co n0 c0 n1 c1 n2 c2 n3 c3 0 0 0 0 0 0 s w' M0.out.1 M0.out.2.1 M0.out.2.2.1 M0.out.2.2.2.1 M0.out.2.2.2.2.1 M0.out.2.2.2.2.2 (Nat.zero_le _) (Nat.zero_le _) (Nat.zero_le _) HS.out True (fun _ => trivial)).mono ?_
    rintro e w ⟨x, rfl, rfl, _⟩
    by_cases hx : 1048576 < x
    · go_wp2
      go_ret
      exact ⟨rfl, Below.refl _ _⟩
    have hx' : decide ((1048576 : Int) < x) = false := decide_eq_false hx
    clear hx
    by_cases x1 : X < 1
    · go_wp2
      go_ret
      exact ⟨rfl, Below.refl _ _⟩
    by_cases x2 : 1024 < X
    · go_wp2
      go_ret
      exact ⟨rfl, Below.refl _ _⟩
    obtain ⟨C, rfl⟩ : ∃ C : Nat, X = (C : Int) := ⟨X.toNat, by omega⟩
    have hC1 : 1 ≤ C := by omega
    have hC2 : C ≤ 1024 := by omega
    have dx1 : decide ((C : Int) < 1) = false := decide_eq_false x1
    have dx2 : decide ((1024 : Int) < (C : Int)) = false := decide_eq_false x2
    have hcz : ¬ (C : Int) = 0 := by omega
    obtain ⟨Q, hQ⟩ : ∃ Q, Q = 65536 / C := ⟨_, rfl⟩
    have hq : (65536 : Int).tdiv (C : Int) = (Q : Int) := by rw [hQ, show (65536 : Int) = ((65536 : Nat) : Int) from rfl]; exact (Int.ofNat_tdiv 65536 C)
    have hQl : Q ≤ 65536 := by rw [hQ]; exact Nat.div_le_self _ _
    have HQ : Hid (Q = 65536 / C) := hQ
    clear hQ
    by_cases x3 : Q < n
    · have dx3 : decide ((Q : Int) < (n : Int)) = true := decide_eq_true (by omega)
      go_wp2
      go_ret
      exact ⟨rfl, Below.refl _ _⟩
    have dx3 : decide ((Q : Int) < (n : Int)) = false := decide_eq_false (by omega)
    have M2 : Hid (n * C ≤ 65536) := by
      unfold Hid
      have h2 : n ≤ 65536 / C := by rw [← HQ.out]; omega
      exact Nat.le_trans (Nat.mul_le_mul_right C h2) (Nat.div_mul_le_self 65536 C)
    go_wp2_with fail
    clear dx1 dx2 dx3 x1 x2 x3 hx' hcz hq hQl HQ
    refine (guard3 w.heap.size a ao a0 a1 a2 a3 n c no co n0 c0 n1 c1 n2 c2 n3 c3 (C : Int) s o cl be so w M1.out HS.out HO.out HC.out HB.out HR.out HG.out (no = n ∧ n0 = n ∧ n1 = n ∧ n2 = n ∧ n3 = n ∧ G3 n C s o cl be so) (fun h1 h2 h3 h4 h5 h6 => ⟨h1, h2, h3, h4, h5, h6⟩)).mono ?_
    rintro e w0 ⟨x, q, rfl, hw0, hR⟩
    have B0 : Hid (Below w.heap.size w w0) := by rw [hw0]; exact below_drewN _ _
    have HRR : Hid (x = true → no = n ∧ n0 = n ∧ n1 = n ∧ n2 = n ∧ n3 = n ∧ G3 n C s o cl be so) := hR
    clear hw0 hR
    cases x with
    | false =>
      go_wp2
      go_ret
      exact ⟨rfl, B0.out⟩
    | true =>
      obtain ⟨h1, h2, h3, h4, h5, h6⟩ := HRR.out rfl
      have HG3 : Hid (G3 n C s o cl be so) := h6
      clear h6 HRR
      subst h1 h2 h3 h4 h5
      have hnn : n3 ≤ 1024 := M1.out
      clear M1 HG M0
      go_wp2_with fail
      refine (cloneS a n3 c w.heap.size s w0 (by omega) B0.out.size (HS.out.below B0.out) ES.out).mono ?_
      rintro e w1 ⟨b0, rfl, _, hv, hb, _⟩
      have V0 : Hid (VRow (· < w1.heap.size) w1 b0 n3 (sv s)) := hv.mono (fun _ h => h.2)
      have B1 : Hid (Below w.heap.size w w1) := below_step B0.out (Nat.le_refl _) hb
      clear hv hb B0 HS ES
      go_wp2_with fail
      refine (cloneB ao n3 co w.heap.size o w1 (by omega) B1.out.size (HO.out.below B1.out) EO.out).mono ?_
      rintro e w2 ⟨b1, rfl, _, hv, hb, _⟩
      have V1 : Hid (VRow (· < w2.heap.size) w2 b1 n3 (bv o)) := hv.mono (fun _ h => h.2)
      replace V0 : Hid (VRow (· < w2.heap.size) w2 b0 n3 (sv s)) := V0.out.up hb
      have B2 : Hid (Below w.heap.size w w2) := below_step B1.out (Nat.le_refl _) hb
      clear hv hb B1 HO EO
      go_wp2_with fail
      refine (cloneI a0 n3 c0 w.heap.size cl w2 (by omega) B2.out.size (HC.out.below B2.out) EC.out).mono ?_
      rintro e w3 ⟨b2, rfl, _, hv, hb, _⟩
      have V2 : Hid (VRow (· < w3.heap.size) w3 b2 n3 (iv cl)) := hv.mono (fun _ h => h.2)
      replace V0 : Hid (VRow (· < w3.heap.size) w3 b0 n3 (sv s)) := V0.out.up hb
      replace V1 : Hid (VRow (· < w3.heap.size) w3 b1 n3 (bv o)) := V1.out.up hb
      have B3 : Hid (Below w.heap.size w w3) := below_step B2.out (Nat.le_refl _) hb
      clear hv hb B2 HC EC
      go_wp2_with fail
      refine (cloneI a1 n3 c1 w.heap.size ix w3 (by omega) B3.out.size (HI.out.below B3.out) EI.out).mono ?_
      rintro e w4 ⟨b3, rfl, _, hv, hb, _⟩
      have V3 : Hid (VRow (· < w4.heap.size) w4 b3 n3 (iv ix)) := hv.mono (fun _ h => h.2)
      replace V0 : Hid (VRow (· < w4.heap.size) w4 b0 n3 (sv s)) := V0.out.up hb
      replace V1 : Hid (VRow (· < w4.heap.size) w4 b1 n3 (bv o)) := V1.out.up hb
      replace V2 : Hid (VRow (· < w4.heap.size) w4 b2 n3 (iv cl)) := V2.out.up hb
      have B4 : Hid (Below w.heap.size w w4) := below_step B3.out (Nat.le_refl _) hb
      clear hv hb B3 HI EI
      go_wp2_with fail
      refine (cloneI a2 n3 c2 w.heap.size be w4 (by omega) B4.out.size (HB.out.below B4.out) EB.out).mono ?_
      rintro e w5 ⟨b4, rfl, _, hv, hb, _⟩
      have V4 : Hid (VRow (· < w5.heap.size) w5 b4 n3 (iv be)) := hv.mono (fun _ h => h.2)
      replace V0 : Hid (VRow (· < w5.heap.size) w5 b0 n3 (sv s)) := V0.out.up hb
      replace V1 : Hid (VRow (· < w5.heap.size) w5 b1 n3 (bv o)) := V1.out.up hb
      replace V2 : Hid (VRow (· < w5.heap.size) w5 b2 n3 (iv cl)) := V2.out.up hb
      replace V3 : Hid (VRow (· < w5.heap.size) w5 b3 n3 (iv ix)) := V3.out.up hb
      have B5 : Hid (Below w.heap.size w w5) := below_step B4.out (Nat.le_refl _) hb
      clear hv hb B4 HB EB
      go_wp2_with fail
      refine (cloneI a3 n3 c3 w.heap.size so w5 (by omega) B5.out.size (HR.out.below B5.out) ER.out).mono ?_
      rintro e w6 ⟨b5, rfl, _, hv, hb, _⟩
      have V5 : Hid (VRow (· < w6.heap.size) w6 b5 n3 (iv so)) := hv.mono (fun _ h => h.2)
      replace V0 : Hid (VRow (· < w6.heap.size) w6 b0 n3 (sv s)) := V0.out.up hb
      replace V1 : Hid (VRow (· < w6.heap.size) w6 b1 n3 (bv o)) := V1.out.up hb
      replace V2 : Hid (VRow (· < w6.heap.size) w6 b2 n3 (iv cl)) := V2.out.up hb
      replace V3 : Hid (VRow (· < w6.heap.size) w6 b3 n3 (iv ix)) := V3.out.up hb
      replace V4 : Hid (VRow (· < w6.heap.size) w6 b4 n3 (iv be)) := V4.out.up hb
      have B6 : Hid (Below w.heap.size w w6) := below_step B5.out (Nat.le_refl _) hb
      clear hv hb B5 HR ER
      go_wp2_with fail
      refine (ops11 b0 b1 n3 n3 n3 w6.heap.size s o w6 (by omega) (Nat.le_refl _) V0.out V1.out).mono ?_
      rintro e w7 ⟨b6, rfl, hv, hb, hsz⟩
      have HL : Hid (Lr (· < w7.heap.size) ⟨n3, C, s, o, cl, ix, be, so⟩ ⟨b6, b2, b3, b4, b5⟩ b0 b1 w7) := ⟨⟨hv.mono (fun b h => by show b < w7.heap.size; omega), V2.out.up hb, V3.out.up hb, V4.out.up hb, V5.out.up hb⟩, V0.out.up hb, V1.out.up hb⟩
      have B7 : Hid (Below w.heap.size w w7) := below_step B6.out (Nat.le_refl _) hb
      clear hv hb hsz B6 V0 V1 V2 V3 V4 V5
      obtain ⟨D, rfl, rfl, rfl, rfl, rfl, rfl, rfl, rfl⟩ : ∃ D : Hist, D.n = n3 ∧ D.C = C ∧ D.s = s ∧ D.o = o ∧ D.cl = cl ∧ D.ix = ix ∧ D.be = be ∧ D.so = so := ⟨⟨n3, C, s, o, cl, ix, be, so⟩, rfl, rfl, rfl, rfl, rfl, rfl, rfl, rfl⟩
      have HL : Hid (Lr (· < w7.heap.size) D ⟨b6, b2, b3, b4, b5⟩ b0 b1 w7) := HL.out
      obtain ⟨gb, hgb⟩ : ∃ gb, gb = w7.heap.size := ⟨_, rfl⟩
      have HGB : Hid (gb = w7.heap.size) := hgb
      rw [← hgb] at HL
      clear hgb
      have hmk := run_make_row' (P := Try.prog) 24 21 _ 4 Try.underlying24 Try.info21 rfl .i64 .i64 D.n (by omega) (by omega)
      go_wp2
      clear hmk
      rw [← HGB.out]
      go_loopw [18] (fun i wr => ∃ t : Nat, t ≤ D.n ∧ i = .int .i64 t ∧ Hid (wr.rowIs gb 21 D.n (fun j => .int .i32 (if j < t then -1 else 0)) ∧ Below gb w7 wr ∧ wr.heap.size = gb + 1)) (fun i _ => D.n - (intOf i).toNat)
      case atStart => exact ⟨0, Nat.zero_le _, rfl, by rw [HGB.out]; exact (World.rowIs_made _ _ _ _).congr (fun i _ => by simp), (Below.refl _ _).alloc (Nat.le_of_eq HGB.out) _, by rw [HGB.out]; simp⟩
      case round =>
        obtain ⟨t, ht, rfl, HW⟩ := hrel
        by_cases hlt : t < D.n
        · have dt : decide ((t : Int) < (D.n : Int)) = true := decide_eq_true (by omega)
          obtain ⟨hrow, _, _⟩ := HW.out
          have g1 := hrow.cell hlt
          have f1 := hrow.frozen t
          clear hrow
          go_wp2
          go_roundw
          case rel => exact ⟨t + 1, by omega, by go_num, (HW.out.1.set t _).congr (fun i hi => by
              by_cases e : i = t
              · subst e; simp
              · have : i < t + 1 ↔ i < t := by omega
                simp [e, this]), HW.out.2.1.setCell (Nat.le_refl _) _, by have := HW.out.2.2; simpa [World.setCell] using this⟩
          case measure => simp [intOf]; omega
        have dt : decide ((t : Int) < (D.n : Int)) = false := decide_eq_false (by omega)
        obtain ⟨nc, hnc⟩ : ∃ nc, nc = D.n * D.C := ⟨_, rfl⟩
        have hncl : nc ≤ 65536 := by rw [hnc]; exact M2.out
        have hmul : (D.n : Int) * (D.C : Int) = (nc : Int) := by rw [hnc]; exact (Int.natCast_mul _ _).symm
        have HNC : Hid (nc = D.n * D.C) := hnc
        clear hnc
        have hmkz := make_cap 0 nc (Nat.zero_le _) (by omega)
        simp only [Int.natCast_zero] at hmkz
        go_wp2
        clear hmkz dt
        have HP2 : Hid (Kept (· < gb) w7 wr ∧ wr.rowIs gb 21 D.n (iv (gN 0)) ∧ wr.heap.size = gb + 1) := ⟨Kept.of_below HW.out.2.1, HW.out.1.congr (fun i hi => by simp [iv, gN, show i < t by omega]), HW.out.2.2⟩
        clear HW hlt ht
        obtain ⟨cb, hcb⟩ : ∃ cb, cb = wr.heap.size := ⟨_, rfl⟩
        have HCB : Hid (cb = wr.heap.size ∧ gb < cb) := ⟨hcb, by rw [hcb, HP2.out.2.2]; omega⟩
        rw [← hcb]
        clear hcb
        go_loopw [20, 17, 19] (fun i g cl wr => ∃ t L : Nat, t ≤ D.n ∧ i = .int .i64 t ∧ g = .slice (some ⟨gb, 0, none⟩) D.n D.n ∧ cl = .slice (some ⟨cb, 0, none⟩) L nc ∧ Hid (L = t * D.C) ∧ Hid (Kept (· < gb) w7 wr ∧ wr.rowIs gb 21 D.n (iv (gN t)) ∧ wr.rowIs cb 21 nc (iv (zN D t)))) (fun i _ _ _ => D.n - (intOf i).toNat)
        case atStart => exact ⟨0, 0, Nat.zero_le _, rfl, rfl, rfl, by unfold Hid; omega, HP2.out.1.trans ⟨rfl, rfl, rfl, by simp, fun b hb => Below.heap_alloc _ _ _ (by have := HCB.out; omega)⟩, rowIs_alloc_keep HP2.out.2.1 _, by rw [HCB.out.1]; exact (World.rowIs_made _ _ _ _).congr (fun i _ => rfl)⟩
        case round =>
          clear HP2
          obtain ⟨t, L, ht, rfl, rfl, rfl, HLL, HW⟩ := hrel
          by_cases hlt : t < D.n
          · have dt : decide ((t : Int) < (D.n : Int)) = true := decide_eq_true (by omega)
            go_wp2_with fail
            clear dt
            have hgl := HW.out.2.1.lt
            have hcl2 := HW.out.2.2.lt
            have hgc := HCB.out.2
            have hk1 : Kept (· < gb) w7 (wr.alloc (.cells #[.int .i32 (t : Int)] 21)) := HW.out.1.trans ⟨rfl, rfl, rfl, by simp, fun b hb => Below.heap_alloc _ _ _ (Nat.lt_trans hb hgl)⟩
            have hsz : (wr.alloc (.cells #[.int .i32 (t : Int)] 21)).heap.size = wr.heap.size + 1 := by simp
            have hmt := Nat.mul_le_mul_right D.C (show t + 1 ≤ D.n by omega)
            rw [Nat.add_mul, Nat.one_mul] at hmt
            refine (zz12 D ⟨b6, b2, b3, b4, b5⟩ (some ⟨gb, 0, none⟩) (some ⟨wr.heap.size, 0, none⟩) D.n gb cb t L nc 1 1 (gN t) (zN D t) (fun _ => t) _ (fun _ => ⟨rowIs_alloc_keep HW.out.2.1 _, by omega, rfl⟩) (rowIs_alloc_keep HW.out.2.2 _) ((HL.out.rd.kept hk1).mono (fun b hb => ⟨by rw [hsz]; exact Nat.lt_succ_of_lt (Nat.lt_trans hb hgl), Nat.ne_of_lt hb, Nat.ne_of_lt (Nat.lt_trans hb hgc)⟩))
              (fun i hi => ⟨wr.heap.size, 0, ⟨by rw [hsz]; omega, by omega, by omega⟩, rfl, by
                have hi0 : i = 0 := by omega
                subst hi0
                simp only [World.cell?]
                rw [heap_alloc_new]
                rfl⟩) ⟨fun _ _ => hlt, fun _ _ => ?_, fun _ _ => ?_, fun _ _ h => by have := HG3.out.cl t hlt h; omega⟩ HLL.out (by rw [HLL.out, HNC.out]; exact hmt) (by omega) hC1 (by omega) (by omega) (fun j hj => zN_zero D t _ (by rw [HLL.out]; omega))).mono ?_
            · have hb := HG3.out.be t hlt
              by_cases h0 : D.be t < 0
              · exact .inl h0
              · refine .inr ⟨by omega, by omega, .inr ?_⟩
                unfold gN
                rw [if_pos (by omega)]
                omega
            · have hb := HG3.out.so t hlt
              by_cases h0 : D.so t < 0
              · exact .inl h0
              · refine .inr ⟨by omega, by omega, .inr ?_⟩
                unfold gN
                rw [if_pos (by omega)]
                omega
            rintro e w8 ⟨rfl, hk, hg, hc⟩
            have HW2 : Hid (Kept (· < gb) w7 w8 ∧ w8.rowIs gb 21 D.n (iv (gN (t + 1))) ∧ w8.rowIs cb 21 nc (iv (zN D (t + 1)))) := by
              refine ⟨hk1.trans (hk.mono (fun b hb => ⟨by rw [hsz]; exact Nat.lt_succ_of_lt (Nat.lt_trans hb hgl), Nat.ne_of_lt hb, Nat.ne_of_lt (Nat.lt_trans hb hgc)⟩)), ?_, ?_⟩
              · rw [← gN_step]; exact hg (by omega)
              · show w8.rowIs cb 21 nc (iv (cv (t * D.C) D.C (zN D t) (js D (zN D t) (gs (gN t) t (fun _ => t) 1) t (fun _ => t) 1)))
                rw [← HLL.out]
                exact hc
            clear hk hg hc hk1 hsz hmt hgl hcl2 hgc HW
            go_wp2
            go_roundw
            case rel => exact ⟨t + 1, L + D.C, by omega, by go_num, rfl, rfl, by unfold Hid; rw [HLL.out, Nat.add_mul, Nat.one_mul], HW2.out⟩
            case measure => simp [intOf]; omega
          have dt : decide ((t : Int) < (D.n : Int)) = false := decide_eq_false (by omega)
          have htn : t = D.n := by omega
          obtain rfl : L = nc := by rw [HLL.out, HNC.out, htn]
          have HW3 : Hid (Kept (· < gb) w7 wr ∧ wr.rowIs gb 21 D.n (iv (gN D.n)) ∧ wr.rowIs cb 21 L (iv (zN D D.n))) := by have h := HW.out; rw [htn] at h; exact h
          clear HW HLL htn
          have hmk := run_make_row' (P := Try.prog) 24 21 _ 4 Try.underlying24 Try.info21 rfl .i64 .i64 D.n (by omega) (by omega)
          have hmkC := run_make_row' (P := Try.prog) 24 21 _ 4 Try.underlying24 Try.info21 rfl .i64 .i64 D.C (by omega) (by omega)
          go_wp2
          clear hmk hmkC dt
          have HPH : Hid (Ph D gb cb wr.heap.size (wr.heap.size + 1) (wr.heap.size + 2) L w7 (fun _ => 0) (fun _ => 0) (fun _ => 0) (((wr.alloc (.cells (madeCells #[.int .i32 0] D.n) 21)).alloc (.cells (madeCells #[.int .i32 0] D.n) 21)).alloc (.cells (madeCells #[.int .i32 0] D.C) 21))) := by
            obtain ⟨k1, k2, k3⟩ := HW3.out
            have hgl := k2.lt
            have hcl := k3.lt
            have hgc := HCB.out.2
            have m1 : (wr.alloc (.cells (madeCells #[.int .i32 0] D.n) 21)).rowIs wr.heap.size 21 D.n (iv fun _ => 0) := World.rowIs_made _ _ _ _
            have m2 := World.rowIs_made (wr.alloc (.cells (madeCells #[.int .i32 0] D.n) 21)) (.int .i32 0) D.n 21
            have m3 := World.rowIs_made ((wr.alloc (.cells (madeCells #[.int .i32 0] D.n) 21)).alloc (.cells (madeCells #[.int .i32 0] D.n) 21)) (.int .i32 0) D.C 21
            have s1 : (wr.alloc (.cells (madeCells #[.int .i32 0] D.n) 21)).heap.size = wr.heap.size + 1 := by simp
            have s2 : ((wr.alloc (.cells (madeCells #[.int .i32 0] D.n) 21)).alloc (.cells (madeCells #[.int .i32 0] D.n) 21)).heap.size = wr.heap.size + 2 := by simp
            rw [s1] at m2
            rw [s2] at m3
            refine ⟨k1.trans ⟨rfl, rfl, rfl, by simp; omega, fun b hb => ?_⟩, rowIs_alloc_keep (rowIs_alloc_keep (rowIs_alloc_keep k2 _) _) _, rowIs_alloc_keep (rowIs_alloc_keep (rowIs_alloc_keep k3 _) _) _, rowIs_alloc_keep (rowIs_alloc_keep m1 _) _, rowIs_alloc_keep m2 _, m3, by omega, by omega, by omega, by omega⟩
            rw [Below.heap_alloc _ _ _ (by rw [s2]; omega), Below.heap_alloc _ _ _ (by rw [s1]; omega), Below.heap_alloc _ _ _ (by omega)]
          obtain ⟨mb, hmb⟩ : ∃ mb, mb = wr.heap.size := ⟨_, rfl⟩
          rw [← hmb] at HPH ⊢
          obtain ⟨kb, hkb⟩ : ∃ kb, kb = mb + 1 := ⟨_, rfl⟩
          rw [← hkb] at HPH ⊢
          obtain ⟨wb, hwb⟩ : ∃ wb, wb = mb + 2 := ⟨_, rfl⟩
          rw [← hwb] at HPH
          rw [show kb + 1 = wb by omega]
          clear hmb hkb hwb HW3 HCB
          have HKC : Hid (Clk D.n D.C (fun x => ordb (D.s x) (D.o x)) D.cl D.ix D.be D.so (kN D)) := kN_clk D HG3.out.be HG3.out.so
          go_loopw [25] (fun i wr => ∃ (t : Nat) (mark stack want : Nat → Int), t ≤ D.n ∧ i = .int .i64 t ∧ Hid (Ph D gb cb mb kb wb L w7 mark stack want wr) ∧ Hid (∀ x, x < D.n → mark x ≤ t)) (fun i _ => D.n - (intOf i).toNat)
          case atStart => exact ⟨0, _, _, _, Nat.zero_le _, rfl, HPH.out, fun _ _ => Int.le_refl _⟩
          case round =>
            clear HPH
            obtain ⟨t, mark, stack, want, ht, rfl, HPH, HMK⟩ := hrel
            by_cases hlt : t < D.n
            · have dt : decide ((t : Int) < (D.n : Int)) = true := decide_eq_true (by omega)
              have g1 := HPH.out.grp.cell hlt
              simp only [iv] at g1
              rw [show gN D.n t = (t : Int) from by unfold gN; rw [if_pos hlt]] at g1
              go_wp2
              clear dt g1
              go_loopw [26] (fun i wr => ∃ (j : Nat) (want : Nat → Int), j ≤ D.C ∧ i = .int .i64 j ∧ Hid (Ph D gb cb mb kb wb L w7 mark stack want wr) ∧ Hid (∀ y, y < j → want y = 0)) (fun i _ => D.C - (intOf i).toNat)
              case atStart => exact ⟨0, want, Nat.zero_le _, rfl, HPH.out, fun y hy => absurd hy (by omega)⟩
              case round =>
                clear HPH
                obtain ⟨j, want, hj, rfl, HPH, HWZ⟩ := hrel
                by_cases hjl : j < D.C
                · have dj : decide ((j : Int) < (D.C : Int)) = true := decide_eq_true (by omega)
                  have g1 := HPH.out.wt.cell hjl
                  have f1 := HPH.out.wt.frozen j
                  simp only [iv] at g1
                  go_wp2
                  go_roundw
                  case rel => exact ⟨j + 1, _, by omega, by go_num, HPH.out.setW j 0, fun y hy => by
                    by_cases e : y = j
                    · simp only [if_pos e]
                    · simp only [if_neg e]; exact HWZ.out y (by omega)⟩
                  case measure => simp [intOf]; omega
                have dj : decide ((j : Int) < (D.C : Int)) = false := decide_eq_false (by omega)
                have HW0 : Hid (∀ y, y < D.C → want y = 0) := fun y hy => HWZ.out y (by omega)
                have g1 := HPH.out.sk.cell (i := 0) (by omega)
                have f1 := HPH.out.sk.frozen 0
                simp only [iv] at g1
                have dn0 : decide ((0 : Int) < (D.n : Int)) = true := decide_eq_true (by omega)
                go_upto_region 48 with fail
                clear dj hjl hj HWZ g1 f1 dn0
                refine wp_gen (fun w8 => Ph D gb cb mb kb wb L w7 mark (fun y => if y = 0 then (t : Int) else stack y) want w8) (HPH.out.setK 0 (t : Int)) ?_
                clear HPH
                intro w8 h8
                have HPH : Hid (Ph D gb cb mb kb wb L w7 mark (fun y => if y = 0 then (t : Int) else stack y) want w8) := h8
                clear h8
                have g1 := HPH.out.mrk.cell hlt
                have f1 := HPH.out.mrk.frozen t
                simp only [iv] at g1
                have dt : decide ((t : Int) < (D.n : Int)) = true := decide_eq_true (by omega)
                go_wp2
                clear g1 f1 dt
                have HDI : Hid (DInv D.n D.C (fun x => ordb (D.s x) (D.o x)) D.cl D.ix D.be D.so (kN D) t ((t : Int) + 1) (fun _ => False) 1 (fun x => if x = t then (t : Int) + 1 else mark x) (fun y => if y = 0 then (t : Int) else stack y) want) := DInv.start hlt (fun x hx => by have := HMK.out x hx; omega) HW0.out HKC.out
                replace HPH : Hid (Ph D gb cb mb kb wb L w7 (fun x => if x = t then (t : Int) + 1 else mark x) (fun y => if y = 0 then (t : Int) else stack y) want (w8.setCell ⟨mb, t, none⟩ (.int .i32 ((t : Int) + 1)))) := HPH.out.setM t ((t : Int) + 1)
                clear HMK HW0
                go_loopg [28] (2 * (D.n - cntm (fun x => if x = t then (t : Int) + 1 else mark x) ((t : Int) + 1) D.n) + 1) (fun m top wr => ∃ (T : Nat) (mark stack want : Nat → Int), T ≤ D.n ∧ top = .int .i64 T ∧ Hid (2 * (D.n - cntm mark ((t : Int) + 1) D.n) + T = m) ∧ Hid (Ph D gb cb mb kb wb L w7 mark stack want wr) ∧ Hid (DInv D.n D.C (fun x => ordb (D.s x) (D.o x)) D.cl D.ix D.be D.so (kN D) t ((t : Int) + 1) (fun _ => False) T mark stack want))
                case atStart => exact ⟨1, _, _, _, by omega, rfl, rfl, HPH.out, HDI.out⟩
                case round =>
                  clear HPH HDI
                  obtain ⟨T, mark, stack, want, hT, rfl, HMU, HPH, HDI⟩ := hrel
                  cases T with
                  | zero =>
                    have HEQ : Hid (∀ j, j < D.C → kN D t j = want j) := HDI.out.finish hlt HKC.out HG3.out.be HG3.out.so
                    obtain ⟨r, hr⟩ : ∃ r, r = t * D.C := ⟨_, rfl⟩
                    have hri : (t : Int) * (D.C : Int) = (r : Int) := by rw [hr]; exact (Int.natCast_mul _ _).symm
                    have hrl : r + D.C ≤ L := by
                      have hmt := Nat.mul_le_mul_right D.C (show t + 1 ≤ D.n by omega)
                      rw [Nat.add_mul, Nat.one_mul, ← hr, ← HNC.out] at hmt
                      exact hmt
                    have HRR : Hid (r = t * D.C) := hr
                    clear hr
                    go_wp2
                    go_loopw [32] (fun i wr => ∃ (j : Nat), j ≤ D.C ∧ i = .int .i64 j ∧ Hid (Ph D gb cb mb kb wb L w7 mark stack want wr)) (fun i _ => D.C - (intOf i).toNat)
                    case atStart => exact ⟨0, Nat.zero_le _, rfl, HPH.out⟩
                    case round =>
                      clear HPH
                      obtain ⟨j, hj, rfl, HPH⟩ := hrel
                      by_cases hjl : j < D.C
                      · have dj : decide ((j : Int) < (D.C : Int)) = true := decide_eq_true (by omega)
                        have g1 := HPH.out.wt.cell hjl
                        have g2 := HPH.out.clk.cell (i := r + j) (by omega)
                        simp only [iv] at g1 g2
                        rw [HRR.out, zN_stable D t j hjl D.n hlt, HEQ.out j hjl, ← HRR.out] at g2
                        have dl : decide ((r : Int) + (j : Int) < (L : Int)) = true := decide_eq_true (by omega)
                        go_upto_region 67 with fail
                        go_quiet (fail)
                        go_wp2
                        go_roundw
                        case rel => exact ⟨j + 1, by omega, by go_num, HPH.out.drewN _⟩
                        case measure => simp [intOf]; omega
                      · have dj : decide ((j : Int) < (D.C : Int)) = false := decide_eq_false (by omega)
                        go_wp2
                        go_roundw
                        case rel => exact ⟨t + 1, mark, stack, want, by omega, by go_num, HPH.out, fun x hx => by have := HDI.out.le x hx; omega⟩
                        case measure => simp [intOf]; omega
                  | succ T =>
                    obtain ⟨q, hq, hst, hmq, hdi⟩ := HDI.out.pop HKC.out (fun x hx h => HG3.out.cl x hx h)
                    have HDQ : Hid (DInv D.n D.C (fun x => ordb (D.s x) (D.o x)) D.cl D.ix D.be D.so (kN D) t ((t : Int) + 1) (fun x => x = q) T mark stack (wnt (fun x => ordb (D.s x) (D.o x)) D.cl D.ix want q)) := hdi
                    have HMQ : Hid (mark q = (t : Int) + 1) := hmq
                    have HKQ : Hid (∀ j, j < D.C → kN D q j ≤ kN D t j) := HDI.out.lo q hq hmq
                    have g0 := HPH.out.sk.cell (i := T) (by omega)
                    simp only [iv] at g0
                    rw [hst] at g0
                    clear hst hmq hdi HDI
                    have dT : decide ((0 : Int) < ((T : Int) + 1)) = true := decide_eq_true (by omega)
                    have dT2 : decide ((T : Int) < (D.n : Int)) = true := decide_eq_true (by omega)
                    have dq : decide ((q : Int) < (D.n : Int)) = true := decide_eq_true (by omega)
                    obtain ⟨bs, os, -, es, -⟩ := (HL.out.kept HPH.out.kept).s q hq
                    obtain ⟨bo, oo, -, eo, -⟩ := (HL.out.kept HPH.out.kept).o q hq
                    obtain ⟨bc, oc, -, ec, -⟩ := (HL.out.kept HPH.out.kept).rd.c q hq
                    obtain ⟨bi, oi, -, ei, -⟩ := (HL.out.kept HPH.out.kept).rd.i q hq
                    obtain ⟨bb, ob, -, eb, -⟩ := (HL.out.kept HPH.out.kept).rd.b q hq
                    obtain ⟨br, or', -, er, -⟩ := (HL.out.kept HPH.out.kept).rd.s q hq
                    simp only at ec ei eb er
                    subst es eo ec ei eb er
                    have RD : Hid (∀ w', Kept (· < gb) w7 w' → w'.cell? ⟨bs, os + q, none⟩ = some (.string (D.s q)) ∧ w'.cell? ⟨bo, oo + q, none⟩ = some (.bool (D.o q)) ∧ w'.cell? ⟨bc, oc + q, none⟩ = some (.int .i32 (D.cl q)) ∧ w'.cell? ⟨bi, oi + q, none⟩ = some (.int .i32 (D.ix q)) ∧ w'.cell? ⟨bb, ob + q, none⟩ = some (.int .i32 (D.be q)) ∧ w'.cell? ⟨br, or' + q, none⟩ = some (.int .i32 (D.so q))) := by
                      intro w' hk
                      have h := HL.out.kept hk
                      have pick : ∀ {b off : Nat} {f : Nat → Value} (_ : VRow (· < gb) w' (some ⟨b, off, none⟩) D.n f), w'.cell? ⟨b, off + q, none⟩ = some (f q) := fun hv => by
                        obtain ⟨b1, o1, _, e1, e2⟩ := hv q hq
                        simp only [Option.some.injEq, Addr.mk.injEq, and_true] at e1
                        obtain ⟨rfl, rfl⟩ := e1
                        exact e2
                      exact ⟨pick h.s, pick h.o, pick h.rd.c, pick h.rd.i, pick h.rd.b, pick h.rd.s⟩
                    obtain ⟨e0, e1, e2, e3, _, _⟩ := RD.out _ HPH.out.kept
                    go_upto_region 52 with fail
                    go_cut [234] from 204 to 278 (fun cc wx => cc = .bool (ordb (D.s q) (D.o q) && decide (want (D.cl q).toNat < D.ix q)) ∧ Hid (Ph D gb cb mb kb wb L w7 mark stack want wx))
                    case first =>
                      cases hob : ordb (D.s q) (D.o q) with
                      | false =>
                        have HCALL : Hid (∀ w, Calls Try.prog 17 #[.string (D.s q), .bool (D.o q)] w (fun e w' => e = .returned (.bool false) ∧ w' = w)) := fun w => by
                          have := ordered17 (D.s q) (D.o q) w
                          unfold OrdPost at this
                          rw [hob] at this
                          exact this
                        have HOB : Hid (ordb (D.s q) (D.o q) = false) := hob
                        clear hob
                        go_quiet (first | (go_at_call 17; exact Calls.quiet_of_same (HCALL.out _)))
                        go_wp2
                        go_meet
                        exact ⟨by rw [HOB.out]; rfl, HPH.out.drewN _⟩
                      | true =>
                        have HCALL : Hid (∀ w, Calls Try.prog 17 #[.string (D.s q), .bool (D.o q)] w (fun e w' => e = .returned (.bool true) ∧ w' = w)) := fun w => by
                          have := ordered17 (D.s q) (D.o q) w
                          unfold OrdPost at this
                          rw [hob] at this
                          exact this
                        have HOB : Hid (ordb (D.s q) (D.o q) = true) := hob
                        obtain ⟨hc0, hc1⟩ := HG3.out.cl q hq hob
                        clear hob
                        obtain ⟨cn, hcn⟩ := Int.eq_ofNat_of_zero_le hc0
                        have hcC : cn < D.C := by omega
                        have g3 := HPH.out.wt.cell hcC
                        simp only [iv] at g3
                        rw [hcn] at e2
                        have dc : decide ((cn : Int) < (D.C : Int)) = true := decide_eq_true (by omega)
                        have HCN : Hid (D.cl q = (cn : Int)) := hcn
                        clear hcn hc0 hc1
                        have hcI : (cn : Int) < (D.C : Int) := by omega
                        have hcI0 : (0 : Int) ≤ (cn : Int) := by omega
                        by_cases hlt2 : want cn < D.ix q
                        · have d9 : decide (want cn < D.ix q) = true := decide_eq_true hlt2
                          have H9 : Hid (decide (want cn < D.ix q) = true) := d9
                          go_quiet (first | (go_at_call 17; exact Calls.quiet_of_same (HCALL.out _)))
                          go_wp2
                          go_meet
                          exact ⟨by rw [HOB.out, HCN.out, Int.toNat_natCast, H9.out]; rfl, HPH.out.drewN _⟩
                        · have d9 : decide (want cn < D.ix q) = false := decide_eq_false hlt2
                          have H9 : Hid (decide (want cn < D.ix q) = false) := d9
                          go_quiet (first | (go_at_call 17; exact Calls.quiet_of_same (HCALL.out _)))
                          go_wp2
                          go_meet
                          exact ⟨by rw [HOB.out, HCN.out, Int.toNat_natCast, H9.out]; rfl, HPH.out.drewN _⟩
                    case rest =>
                      clear HPH e0 e1 e2 e3
                      obtain ⟨rfl, HPH⟩ := hcut
                      have hbq : (ordb (D.s q) (D.o q) && decide (want (D.cl q).toNat < D.ix q)) = true ∨ (ordb (D.s q) (D.o q) && decide (want (D.cl q).toNat < D.ix q)) = false := by cases (ordb (D.s q) (D.o q) && decide (want (D.cl q).toNat < D.ix q)) <;> simp
                      go_upto_if 234 with fail
                      go_cut [28] from 204 to 278 (fun tp wx => tp = .int .i64 (T : Int) ∧ Hid (Ph D gb cb mb kb wb L w7 mark stack (wnt (fun x => ordb (D.s x) (D.o x)) D.cl D.ix want q) wx))
                      case first =>
                        rcases hbq with hb | hb
                        · rw [hb]
                          have hb' := hb
                          rw [Bool.and_eq_true, decide_eq_true_eq] at hb'
                          have HB' : Hid (ordb (D.s q) (D.o q) = true ∧ want (D.cl q).toNat < D.ix q) := hb'
                          obtain ⟨hc0, hc1⟩ := HG3.out.cl q hq hb'.1
                          clear hb hb'
                          obtain ⟨cn, hcn⟩ := Int.eq_ofNat_of_zero_le hc0
                          have hcC : cn < D.C := by omega
                          obtain ⟨_, _, e2, e3, _, _⟩ := RD.out _ HPH.out.kept
                          have g3 := HPH.out.wt.cell hcC
                          have f3 := HPH.out.wt.frozen cn
                          simp only [iv] at g3
                          rw [hcn] at e2
                          have dc : decide ((cn : Int) < (D.C : Int)) = true := decide_eq_true (by omega)
                          have HCN : Hid (D.cl q = (cn : Int)) := hcn
                          clear hcn hc0 hc1
                          generalize hix : D.ix q = iq at e3
                          have HIX : Hid (D.ix q = iq) := hix
                          clear hix
                          go_upto_region 53 with fail
                          go_region
                          go_wp2
                          go_meet
                          have e : (wnt (fun x => ordb (D.s x) (D.o x)) D.cl D.ix want q) = fun j => if j = cn then iq else want j := by
                            unfold wnt
                            rw [if_pos HB'.out, HCN.out, HIX.out, Int.toNat_natCast]
                          rw [e]
                          exact ⟨rfl, (HPH.out.setW cn iq).drewN 1⟩
                        · rw [hb]
                          have HB' : Hid ((ordb (D.s q) (D.o q) && decide (want (D.cl q).toNat < D.ix q)) = false) := hb
                          clear hb
                          go_wp2
                          go_meet
                          have e : (wnt (fun x => ordb (D.s x) (D.o x)) D.cl D.ix want q) = want := by
                            unfold wnt
                            rw [if_neg (fun h => by
                              have h2 := HB'.out
                              have h1 : ordb (D.s q) (D.o q) = true := h.1
                              rw [h1, decide_eq_true h.2] at h2
                              cases h2)]
                          rw [e]
                          exact ⟨rfl, HPH.out⟩
                      case rest =>
                        clear HPH hbq
                        obtain ⟨rfl, HPH⟩ := hcut
                        have HOW : Hid (ordb (D.s q) (D.o q) = true → D.ix q ≤ (wnt (fun x => ordb (D.s x) (D.o x)) D.cl D.ix want q) (D.cl q).toNat) := fun h => wnt_own (ord := fun x => ordb (D.s x) (D.o x)) (cl := D.cl) (ix := D.ix) want q h
                        generalize (wnt (fun x => ordb (D.s x) (D.o x)) D.cl D.ix want q) = wn at *
                        have HMU : Hid (2 * (D.n - cntm mark ((t : Int) + 1) D.n) + T < gk) := by unfold Hid; rw [← HMU.out]; omega
                        go_wp2
                        go_loopw [30, 28] (fun e top wr => ∃ (E T : Nat) (mark stack : Nat → Int), E ≤ 2 ∧ T ≤ D.n ∧ e = .int .i64 E ∧ top = .int .i64 T ∧ Hid (2 * (D.n - cntm mark ((t : Int) + 1) D.n) + T < gk) ∧ Hid (Ph D gb cb mb kb wb L w7 mark stack wn wr) ∧ Hid (DInv D.n D.C (fun x => ordb (D.s x) (D.o x)) D.cl D.ix D.be D.so (kN D) t ((t : Int) + 1) (fun x => x = q) T mark stack wn) ∧ Hid ((0 < E → 0 ≤ D.be q → mark (D.be q).toNat = (t : Int) + 1) ∧ (1 < E → 0 ≤ D.so q → mark (D.so q).toNat = (t : Int) + 1))) (fun e _ _ => 2 - (intOf e).toNat)
                        case atStart => exact ⟨0, T, mark, stack, by omega, by omega, rfl, rfl, HMU.out, HPH.out, HDQ.out, fun h => absurd h (by omega), fun h => absurd h (by omega)⟩
                        case round =>
                          clear HPH HDQ HMU HMQ g0 dT dT2
                          obtain ⟨E, T, mark, stack, hE, hT, rfl, rfl, HMU, HPH, HDQ, HPR⟩ := hrel
                          obtain ⟨_, _, _, _, e4, e5⟩ := RD.out _ HPH.out.kept
                          by_cases hE2 : E = 2
                          · subst hE2
                            clear e4 e5
                            go_wp2
                            go_roundg (2 * (D.n - cntm mark ((t : Int) + 1) D.n) + T)
                            case measure => exact HMU.out
                            case rel => exact ⟨T, mark, stack, wn, hT, rfl, rfl, HPH.out, HDQ.out.close ⟨HOW.out, HPR.out.1 (by omega), HPR.out.2 (by omega)⟩⟩
                          have hE1 : E = 0 ∨ E = 1 := by omega
                          clear hE hE2
                          rcases hE1 with rfl | rfl
                          · have hzl : D.be q < D.n := by have := HG3.out.be q hq; omega
                            generalize hz : D.be q = z at hzl e4
                            have HZ : Hid (D.be q = z) := hz
                            clear hz
                            by_cases hz0 : 0 ≤ z
                            · obtain ⟨p, rfl⟩ := Int.eq_ofNat_of_zero_le hz0
                              have hp : p < D.n := by omega
                              have g1 := HPH.out.mrk.cell hp
                              have f1 := HPH.out.mrk.frozen p
                              simp only [iv] at g1
                              have d0 : decide ((0 : Int) ≤ (p : Int)) = true := decide_eq_true (by omega)
                              have dp : decide ((p : Int) < (D.n : Int)) = true := decide_eq_true (by omega)
                              by_cases hm : mark p = (t : Int) + 1
                              · rw [hm] at g1
                                have HM : Hid (mark p = (t : Int) + 1) := hm
                                clear hm
                                go_wp2
                                go_roundw
                                case rel => exact ⟨1, T, mark, stack, by omega, hT, rfl, rfl, HMU.out, HPH.out, HDQ.out, ⟨fun _ => fun _ => by rw [Int.toNat_natCast]; exact HM.out, fun h => absurd h (by omega)⟩⟩
                                case measure => simp [intOf]
                              · have hmb : (mark p == (t : Int) + 1) = false := by simp only [beq_eq_false_iff_ne]; exact hm
                                obtain ⟨hTn, hdi⟩ := HDQ.out.push p hp hm (fun j hj => Int.le_trans (by have h := HKC.out.edgeb q hq j hj (by rw [HZ.out]; omega); rw [HZ.out, Int.toNat_natCast] at h; exact h) (HKQ.out j hj))
                                have HDP : Hid (DInv D.n D.C (fun x => ordb (D.s x) (D.o x)) D.cl D.ix D.be D.so (kN D) t ((t : Int) + 1) (fun x => x = q) (T + 1) (fun x => if x = p then (t : Int) + 1 else mark x) (fun t => if t = T then (p : Int) else stack t) wn) := hdi
                                have HM : Hid (mark p ≠ (t : Int) + 1) := hm
                                clear hdi hm
                                have dT : decide ((T : Int) < (D.n : Int)) = true := decide_eq_true (by omega)
                                go_upto_region 62 with fail
                                refine wp_gen (fun w8 => Ph D gb cb mb kb wb L w7 (fun x => if x = p then (t : Int) + 1 else mark x) stack wn w8) (HPH.out.setM p ((t : Int) + 1)) ?_
                                intro w8 h8
                                have HPH : Hid (Ph D gb cb mb kb wb L w7 (fun x => if x = p then (t : Int) + 1 else mark x) stack wn w8) := h8
                                clear h8 g1 f1 e4 e5 hmb
                                have g1 := HPH.out.sk.cell hTn
                                have f1 := HPH.out.sk.frozen T
                                simp only [iv] at g1
                                go_wp2
                                go_roundw
                                case rel => exact ⟨1, T + 1, _, _, by omega, by omega, rfl, by go_num, by
                                  unfold Hid
                                  have h1 := cntm_set mark ((t : Int) + 1) p HM.out D.n hp
                                  have h2 := cntm_le (fun x => if x = p then (t : Int) + 1 else mark x) ((t : Int) + 1) D.n
                                  have h3 := HMU.out
                                  rw [h1] at h2 ⊢
                                  omega, HPH.out.setK T (p : Int), HDP.out, ⟨fun _ => fun _ => by rw [Int.toNat_natCast]; simp only [if_pos], fun h => absurd h (by omega)⟩⟩
                                case measure => simp [intOf]
                            · have d0 : decide ((0 : Int) ≤ z) = false := decide_eq_false hz0
                              go_wp2
                              go_roundw
                              case rel => exact ⟨1, T, mark, stack, by omega, hT, rfl, rfl, HMU.out, HPH.out, HDQ.out, ⟨fun _ => fun h => absurd h hz0, fun h => absurd h (by omega)⟩⟩
                              case measure => simp [intOf]
                          · have hzl : D.so q < D.n := by have := HG3.out.so q hq; omega
                            generalize hz : D.so q = z at hzl e5
                            have HZ : Hid (D.so q = z) := hz
                            clear hz
                            by_cases hz0 : 0 ≤ z
                            · obtain ⟨p, rfl⟩ := Int.eq_ofNat_of_zero_le hz0
                              have hp : p < D.n := by omega
                              have g1 := HPH.out.mrk.cell hp
                              have f1 := HPH.out.mrk.frozen p
                              simp only [iv] at g1
                              have d0 : decide ((0 : Int) ≤ (p : Int)) = true := decide_eq_true (by omega)
                              have dp : decide ((p : Int) < (D.n : Int)) = true := decide_eq_true (by omega)
                              by_cases hm : mark p = (t : Int) + 1
                              · rw [hm] at g1
                                have HM : Hid (mark p = (t : Int) + 1) := hm
                                clear hm
                                go_wp2
                                go_roundw
                                case rel => exact ⟨2, T, mark, stack, by omega, hT, rfl, rfl, HMU.out, HPH.out, HDQ.out, ⟨fun _ => HPR.out.1 (by omega), fun _ => fun _ => by rw [Int.toNat_natCast]; exact HM.out⟩⟩
                                case measure => simp [intOf]
                              · have hmb : (mark p == (t : Int) + 1) = false := by simp only [beq_eq_false_iff_ne]; exact hm
                                obtain ⟨hTn, hdi⟩ := HDQ.out.push p hp hm (fun j hj => Int.le_trans (by have h := HKC.out.edges q hq j hj (by rw [HZ.out]; omega); rw [HZ.out, Int.toNat_natCast] at h; exact h) (HKQ.out j hj))
                                have HDP : Hid (DInv D.n D.C (fun x => ordb (D.s x) (D.o x)) D.cl D.ix D.be D.so (kN D) t ((t : Int) + 1) (fun x => x = q) (T + 1) (fun x => if x = p then (t : Int) + 1 else mark x) (fun t => if t = T then (p : Int) else stack t) wn) := hdi
                                have HM : Hid (mark p ≠ (t : Int) + 1) := hm
                                clear hdi hm
                                have dT : decide ((T : Int) < (D.n : Int)) = true := decide_eq_true (by omega)
                                go_upto_region 62 with fail
                                refine wp_gen (fun w8 => Ph D gb cb mb kb wb L w7 (fun x => if x = p then (t : Int) + 1 else mark x) stack wn w8) (HPH.out.setM p ((t : Int) + 1)) ?_
                                intro w8 h8
                                have HPH : Hid (Ph D gb cb mb kb wb L w7 (fun x => if x = p then (t : Int) + 1 else mark x) stack wn w8) := h8
                                clear h8 g1 f1 e4 e5 hmb
                                have g1 := HPH.out.sk.cell hTn
                                have f1 := HPH.out.sk.frozen T
                                simp only [iv] at g1
                                go_wp2
                                go_roundw
                                case rel => exact ⟨2, T + 1, _, _, by omega, by omega, rfl, by go_num, by
                                  unfold Hid
                                  have h1 := cntm_set mark ((t : Int) + 1) p HM.out D.n hp
                                  have h2 := cntm_le (fun x => if x = p then (t : Int) + 1 else mark x) ((t : Int) + 1) D.n
                                  have h3 := HMU.out
                                  rw [h1] at h2 ⊢
                                  omega, HPH.out.setK T (p : Int), HDP.out, ⟨fun _ => fun h => by
                                    have := HPR.out.1 (by omega) h
                                    show (if (D.be q).toNat = p then (t : Int) + 1 else mark (D.be q).toNat) = _
                                    by_cases e : (D.be q).toNat = p
                                    · rw [if_pos e]
                                    · rw [if_neg e]; exact this, fun _ => fun _ => by rw [Int.toNat_natCast]; simp only [if_pos]⟩⟩
                                case measure => simp [intOf]
                            · have d0 : decide ((0 : Int) ≤ z) = false := decide_eq_false hz0
                              go_wp2
                              go_roundw
                              case rel => exact ⟨2, T, mark, stack, by omega, hT, rfl, rfl, HMU.out, HPH.out, HDQ.out, ⟨fun _ => HPR.out.1 (by omega), fun _ => fun h => absurd h hz0⟩⟩
                              case measure => simp [intOf]
            have dt : decide ((t : Int) < (D.n : Int)) = false := decide_eq_false (by omega)
            go_wp2
            go_ret
            exact ⟨rfl, below_step B7.out (Nat.le_refl _) (by have := HPH.out.kept; rw [HGB.out] at this; exact this.below)⟩

end Go.Proofs.Qxb6604061a
