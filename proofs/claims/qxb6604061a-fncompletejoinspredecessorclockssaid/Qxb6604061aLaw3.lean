import Derived.Test.Qxb6604061aJoin
namespace Go.Proofs.Qxb6604061a
open Go.RowKit

theorem VRow.congr {K : Nat → Prop} {w : World} {a : Option Addr} {n : Nat} {f f' : Nat → Value} (h : VRow K w a n f) (e : ∀ i, i < n → f i = f' i) : VRow K w a n f' := by
  intro i hi
  obtain ⟨b, off, h1, h2, h3⟩ := h i hi
  exact ⟨b, off, h1, h2, by rw [h3, e i hi]⟩

set_option maxRecDepth 10000 in
set_option maxHeartbeats 1600000 in
theorem law3 (a ao a0 a1 a2 a3 a4 a5 a6 : Option Addr) (n c no co n0 c0 n1 c1 n2 c2 n3 c3 n4 c4 n5 c5 n6 c6 : Nat) (X : Int) (s : Nat → ByteArray) (o : Nat → Bool) (cl ix be so g cz mz : Nat → Int) (w : World)
    (mS : n ≤ maxLen) (mO : no ≤ maxLen) (mC : n0 ≤ maxLen) (mI : n1 ≤ maxLen) (mB : n2 ≤ maxLen) (mR : n3 ≤ maxLen) (mG : n4 ≤ maxLen) (mK : n5 ≤ maxLen) (mM : n6 ≤ maxLen)
    (hS : VRow (· < w.heap.size) w a n (sv s)) (hO : VRow (· < w.heap.size) w ao no (bv o)) (hC : VRow (· < w.heap.size) w a0 n0 (iv cl)) (hI : VRow (· < w.heap.size) w a1 n1 (iv ix)) (hB : VRow (· < w.heap.size) w a2 n2 (iv be)) (hR : VRow (· < w.heap.size) w a3 n3 (iv so)) (hG : VRow (· < w.heap.size) w a4 n4 (iv g)) (hK : VRow (· < w.heap.size) w a5 n5 (iv cz)) (hM : VRow (· < w.heap.size) w a6 n6 (iv mz))
    (eS : a = none → n = 0) (eO : ao = none → no = 0) (eC : a0 = none → n0 = 0) (eI : a1 = none → n1 = 0) (eB : a2 = none → n2 = 0) (eR : a3 = none → n3 = 0) (eG : a4 = none → n4 = 0) (eK : a5 = none → n5 = 0) (eM : a6 = none → n6 = 0)
    (rC : ∀ i, i < n0 → -2147483648 ≤ cl i ∧ cl i ≤ 2147483647) (rB : ∀ i, i < n2 → -2147483648 ≤ be i ∧ be i ≤ 2147483647) (rR : ∀ i, i < n3 → -2147483648 ≤ so i ∧ so i ≤ 2147483647) (rG : ∀ i, i < n4 → -2147483648 ≤ g i ∧ g i ≤ 2147483647) (rM : ∀ i, i < n6 → -2147483648 ≤ mz i ∧ mz i ≤ 2147483647) :
    Calls Try.prog 3 #[.slice a n c, .slice ao no co, .int .i64 X, .slice a0 n0 c0, .slice a1 n1 c1, .slice a2 n2 c2, .slice a3 n3 c3, .slice a4 n4 c4, .slice a5 n5 c5, .slice a6 n6 c6] w (LawPost w) := by
  have HS : Hid (VRow (· < w.heap.size) w a n (sv s)) := hS
  have ES : Hid (a = none → n = 0) := eS
  have HO : Hid (VRow (· < w.heap.size) w ao no (bv o)) := hO
  have EO : Hid (ao = none → no = 0) := eO
  have HC : Hid (VRow (· < w.heap.size) w a0 n0 (iv cl)) := hC
  have EC : Hid (a0 = none → n0 = 0) := eC
  have HI : Hid (VRow (· < w.heap.size) w a1 n1 (iv ix)) := hI
  have EI : Hid (a1 = none → n1 = 0) := eI
  have HB : Hid (VRow (· < w.heap.size) w a2 n2 (iv be)) := hB
  have EB : Hid (a2 = none → n2 = 0) := eB
  have HR : Hid (VRow (· < w.heap.size) w a3 n3 (iv so)) := hR
  have ER : Hid (a3 = none → n3 = 0) := eR
  have HG : Hid (VRow (· < w.heap.size) w a4 n4 (iv g)) := hG
  have EG : Hid (a4 = none → n4 = 0) := eG
  have HK : Hid (VRow (· < w.heap.size) w a5 n5 (iv cz)) := hK
  have EK : Hid (a5 = none → n5 = 0) := eK
  have HM : Hid (VRow (· < w.heap.size) w a6 n6 (iv mz)) := hM
  have EM : Hid (a6 = none → n6 = 0) := eM
  have GC : Hid (∀ i, i < n0 → -2147483648 ≤ cl i ∧ cl i ≤ 2147483647) := rC
  have GB : Hid (∀ i, i < n2 → -2147483648 ≤ be i ∧ be i ≤ 2147483647) := rB
  have GR : Hid (∀ i, i < n3 → -2147483648 ≤ so i ∧ so i ≤ 2147483647) := rR
  have GG : Hid (∀ i, i < n4 → -2147483648 ≤ g i ∧ g i ≤ 2147483647) := rG
  have GM : Hid (∀ i, i < n6 → -2147483648 ≤ mz i ∧ mz i ≤ 2147483647) := rM
  have MX : Hid (n ≤ maxLen ∧ no ≤ maxLen ∧ n0 ≤ maxLen ∧ n1 ≤ maxLen ∧ n2 ≤ maxLen ∧ n3 ≤ maxLen ∧ n4 ≤ maxLen ∧ n5 ≤ maxLen ∧ n6 ≤ maxLen) := ⟨mS, mO, mC, mI, mB, mR, mG, mK, mM⟩
  clear hS hO hC hI hB hR hG hK hM eS eO eC eI eB eR eG eK eM rC rB rR rG rM mS mO mC mI mB mR mG mK mM
  go_enter Try.func3, Try.ntmps3
  go_wp2_with fail
  refine (bytes5 w.heap.size a ao a0 a1 a2 a3 a4 a5 a6 n c no co n0 c0 n1 c1 n2 c2 n3 c3 n4 c4 n5 c5 n6 c6 X s w MX.out.1 HS.out).mono ?_
  rintro e w' ⟨x, rfl, rfl⟩
  cases x with
  | false =>
    go_wp2
    go_ret
    exact ⟨rfl, Below.refl _ _⟩
  | true =>
    go_wp2_with fail
    refine (size6 w'.heap.size a ao a0 a1 a2 a3 a4 a5 a6 n c no co n0 c0 n1 c1 n2 c2 n3 c3 n4 c4 n5 c5 n6 c6 s w' MX.out.1 MX.out.2.1 MX.out.2.2.1 MX.out.2.2.2.1 MX.out.2.2.2.2.1 MX.out.2.2.2.2.2.1 MX.out.2.2.2.2.2.2.1 MX.out.2.2.2.2.2.2.2.1 MX.out.2.2.2.2.2.2.2.2 HS.out (n ≤ 262144 ∧ no ≤ 262144 ∧ n0 ≤ 262144 ∧ n1 ≤ 262144 ∧ n2 ≤ 262144 ∧ n3 ≤ 262144 ∧ n4 ≤ 262144 ∧ n5 ≤ 262144 ∧ n6 ≤ 262144) (fun h => h)).mono ?_
    rintro e w ⟨x, rfl, rfl, hR⟩
    have HR6 : Hid (x ≤ 1048576 → n ≤ 262144 ∧ no ≤ 262144 ∧ n0 ≤ 262144 ∧ n1 ≤ 262144 ∧ n2 ≤ 262144 ∧ n3 ≤ 262144 ∧ n4 ≤ 262144 ∧ n5 ≤ 262144 ∧ n6 ≤ 262144) := hR
    clear hR MX
    by_cases hx : 1048576 < x
    · go_wp2
      go_ret
      exact ⟨rfl, Below.refl _ _⟩
    have HLN : Hid (n ≤ 262144 ∧ no ≤ 262144 ∧ n0 ≤ 262144 ∧ n1 ≤ 262144 ∧ n2 ≤ 262144 ∧ n3 ≤ 262144 ∧ n4 ≤ 262144 ∧ n5 ≤ 262144 ∧ n6 ≤ 262144) := HR6.out (by omega)
    have hx' : decide ((1048576 : Int) < x) = false := decide_eq_false hx
    have hn6 : n6 ≤ 262144 := HLN.out.2.2.2.2.2.2.2.2
    clear hx HR6
    by_cases x1 : X < 1
    · go_wp2
      go_ret
      exact ⟨rfl, Below.refl _ _⟩
    by_cases x2 : 65536 < X
    · go_wp2
      go_ret
      exact ⟨rfl, Below.refl _ _⟩
    obtain ⟨C, rfl⟩ : ∃ C : Nat, X = (C : Int) := ⟨X.toNat, by omega⟩
    have hC1 : 1 ≤ C := by omega
    have hC2 : C ≤ 65536 := by omega
    have dx1 : decide ((C : Int) < 1) = false := decide_eq_false x1
    have dx2 : decide ((65536 : Int) < (C : Int)) = false := decide_eq_false x2
    have hcz : ¬ (C : Int) = 0 := by omega
    obtain ⟨Q, hQ⟩ : ∃ Q, Q = 16777216 / C := ⟨_, rfl⟩
    have hq : (16777216 : Int).tdiv (C : Int) = (Q : Int) := by rw [hQ, show (16777216 : Int) = ((16777216 : Nat) : Int) from rfl]; exact (Int.ofNat_tdiv 16777216 C)
    have hQl : Q ≤ 16777216 := by rw [hQ]; exact Nat.div_le_self _ _
    clear hQ
    by_cases x3 : Q < n6
    · have dx3 : decide ((Q : Int) < (n6 : Int)) = true := decide_eq_true (by omega)
      go_wp2
      go_ret
      exact ⟨rfl, Below.refl _ _⟩
    have dx3 : decide ((Q : Int) < (n6 : Int)) = false := decide_eq_false (by omega)
    go_wp2_with fail
    clear dx1 dx2 dx3 x1 x2 x3 hx' hcz hq hQl
    obtain ⟨k, hk⟩ : ∃ k, k = n5 / C := ⟨_, rfl⟩
    have hg := guard1 a ao a0 a1 a2 a3 a4 a5 a6 n c no co n0 c0 n1 c1 n2 c2 n3 c3 n4 c4 n5 c5 n6 c6 C s o cl be so g mz w hC1 hC2 HLN.out.1 HLN.out.2.2.2.2.2.2.2.1 hn6 HS.out HO.out HC.out HB.out HR.out HG.out HM.out GC.out GB.out GR.out GG.out GM.out
      (no = n ∧ n0 = n ∧ n1 = n ∧ n2 = n ∧ n3 = n ∧ n4 = n ∧ n5 = k * C ∧ (∀ t, t < n6 → 0 ≤ mz t ∧ mz t < n) ∧ (∀ t, t < n6 → G1 n C k n6 s o cl be so g mz (mz t).toNat))
      (fun h1 h2 h3 h4 h5 h6 h7 h8 h9 => ⟨h1, h2, h3, h4, h5, h6, by rw [hk]; exact h7, h8, by rw [hk]; exact h9⟩)
    rw [← hk] at hg
    clear hk
    refine hg.mono ?_
    clear hg
    rintro e w0 ⟨b, x, v, rfl, hb, hR⟩
    have B0 : Hid (Below w.heap.size w w0) := hb
    cases b with
    | false =>
      clear hR hb
      go_wp2
      go_ret
      exact ⟨rfl, B0.out⟩
    | true =>
      have hR' := hR rfl
      clear hR
      obtain ⟨rfl, rfl, hR, im, him, hi⟩ := hR'
      obtain ⟨h1, h2, h3, h4, h5, h6, h7, h8, h9⟩ := hR
      have HIM : Hid (∀ x, x < n → (im x = true ↔ ∃ u, u < n6 ∧ mz u = (x : Int))) := hi
      have HNC : Hid (n5 = k * C) := h7
      have HMZ : Hid (∀ t, t < n6 → 0 ≤ mz t ∧ mz t < n) := h8
      have HG1 : Hid (∀ t, t < n6 → G1 n C k n6 s o cl be so g mz (mz t).toNat) := h9
      have VI : Hid (VRow (· < w0.heap.size) w0 (some ⟨w.heap.size, 0, none⟩) n (bv im)) := VRow.of_rowIs him him.lt
      have hnl : n ≤ 262144 := HLN.out.1
      have hn5 : n5 ≤ 262144 := HLN.out.2.2.2.2.2.2.2.1
      clear h7 h8 h9 hi him hb HLN GC GB GR GG GM
      subst h1 h2 h3 h4 h5 h6
      obtain ⟨ib, hib⟩ : ∃ ib, ib = w.heap.size := ⟨_, rfl⟩
      rw [← hib] at VI ⊢
      clear hib
      go_wp2_with fail
      refine (cloneS a n4 c w.heap.size s w0 (by omega) B0.out.size (HS.out.below B0.out) ES.out).mono ?_
      rintro e w1 ⟨b0, rfl, -, hv, hb, -⟩
      have V0 : Hid (VRow (· < w1.heap.size) w1 b0 n4 (sv s)) := hv.mono (fun _ h => h.2)
      replace VI : Hid (VRow (· < w1.heap.size) w1 (some ⟨ib, 0, none⟩) n4 (bv im)) := VI.out.up hb
      have B1 : Hid (Below w.heap.size w w1) := below_step B0.out (Nat.le_refl _) hb
      clear hv hb B0 HS ES
      go_wp2_with fail
      refine (cloneB ao n4 co w.heap.size o w1 (by omega) B1.out.size (HO.out.below B1.out) EO.out).mono ?_
      rintro e w2 ⟨b1, rfl, -, hv, hb, -⟩
      have V1 : Hid (VRow (· < w2.heap.size) w2 b1 n4 (bv o)) := hv.mono (fun _ h => h.2)
      replace V0 : Hid (VRow (· < w2.heap.size) w2 b0 n4 (sv s)) := V0.out.up hb
      replace VI : Hid (VRow (· < w2.heap.size) w2 (some ⟨ib, 0, none⟩) n4 (bv im)) := VI.out.up hb
      have B2 : Hid (Below w.heap.size w w2) := below_step B1.out (Nat.le_refl _) hb
      clear hv hb B1 HO EO
      go_wp2_with fail
      refine (cloneI a0 n4 c0 w.heap.size cl w2 (by omega) B2.out.size (HC.out.below B2.out) EC.out).mono ?_
      rintro e w3 ⟨b2, rfl, -, hv, hb, -⟩
      have V2 : Hid (VRow (· < w3.heap.size) w3 b2 n4 (iv cl)) := hv.mono (fun _ h => h.2)
      replace V0 : Hid (VRow (· < w3.heap.size) w3 b0 n4 (sv s)) := V0.out.up hb
      replace V1 : Hid (VRow (· < w3.heap.size) w3 b1 n4 (bv o)) := V1.out.up hb
      replace VI : Hid (VRow (· < w3.heap.size) w3 (some ⟨ib, 0, none⟩) n4 (bv im)) := VI.out.up hb
      have B3 : Hid (Below w.heap.size w w3) := below_step B2.out (Nat.le_refl _) hb
      clear hv hb B2 HC EC
      go_wp2_with fail
      refine (cloneI a1 n4 c1 w.heap.size ix w3 (by omega) B3.out.size (HI.out.below B3.out) EI.out).mono ?_
      rintro e w4 ⟨b3, rfl, -, hv, hb, -⟩
      have V3 : Hid (VRow (· < w4.heap.size) w4 b3 n4 (iv ix)) := hv.mono (fun _ h => h.2)
      replace V0 : Hid (VRow (· < w4.heap.size) w4 b0 n4 (sv s)) := V0.out.up hb
      replace V1 : Hid (VRow (· < w4.heap.size) w4 b1 n4 (bv o)) := V1.out.up hb
      replace V2 : Hid (VRow (· < w4.heap.size) w4 b2 n4 (iv cl)) := V2.out.up hb
      replace VI : Hid (VRow (· < w4.heap.size) w4 (some ⟨ib, 0, none⟩) n4 (bv im)) := VI.out.up hb
      have B4 : Hid (Below w.heap.size w w4) := below_step B3.out (Nat.le_refl _) hb
      clear hv hb B3 HI EI
      go_wp2_with fail
      refine (cloneI a2 n4 c2 w.heap.size be w4 (by omega) B4.out.size (HB.out.below B4.out) EB.out).mono ?_
      rintro e w5 ⟨b4, rfl, -, hv, hb, -⟩
      have V4 : Hid (VRow (· < w5.heap.size) w5 b4 n4 (iv be)) := hv.mono (fun _ h => h.2)
      replace V0 : Hid (VRow (· < w5.heap.size) w5 b0 n4 (sv s)) := V0.out.up hb
      replace V1 : Hid (VRow (· < w5.heap.size) w5 b1 n4 (bv o)) := V1.out.up hb
      replace V2 : Hid (VRow (· < w5.heap.size) w5 b2 n4 (iv cl)) := V2.out.up hb
      replace V3 : Hid (VRow (· < w5.heap.size) w5 b3 n4 (iv ix)) := V3.out.up hb
      replace VI : Hid (VRow (· < w5.heap.size) w5 (some ⟨ib, 0, none⟩) n4 (bv im)) := VI.out.up hb
      have B5 : Hid (Below w.heap.size w w5) := below_step B4.out (Nat.le_refl _) hb
      clear hv hb B4 HB EB
      go_wp2_with fail
      refine (cloneI a3 n4 c3 w.heap.size so w5 (by omega) B5.out.size (HR.out.below B5.out) ER.out).mono ?_
      rintro e w6 ⟨b5, rfl, -, hv, hb, -⟩
      have V5 : Hid (VRow (· < w6.heap.size) w6 b5 n4 (iv so)) := hv.mono (fun _ h => h.2)
      replace V0 : Hid (VRow (· < w6.heap.size) w6 b0 n4 (sv s)) := V0.out.up hb
      replace V1 : Hid (VRow (· < w6.heap.size) w6 b1 n4 (bv o)) := V1.out.up hb
      replace V2 : Hid (VRow (· < w6.heap.size) w6 b2 n4 (iv cl)) := V2.out.up hb
      replace V3 : Hid (VRow (· < w6.heap.size) w6 b3 n4 (iv ix)) := V3.out.up hb
      replace V4 : Hid (VRow (· < w6.heap.size) w6 b4 n4 (iv be)) := V4.out.up hb
      replace VI : Hid (VRow (· < w6.heap.size) w6 (some ⟨ib, 0, none⟩) n4 (bv im)) := VI.out.up hb
      have B6 : Hid (Below w.heap.size w w6) := below_step B5.out (Nat.le_refl _) hb
      clear hv hb B5 HR ER
      go_wp2_with fail
      refine (cloneI a4 n4 c4 w.heap.size g w6 (by omega) B6.out.size (HG.out.below B6.out) EG.out).mono ?_
      rintro e w7 ⟨b6, rfl, -, hv, hb, -⟩
      have V6 : Hid (VRow (· < w7.heap.size) w7 b6 n4 (iv g)) := hv.mono (fun _ h => h.2)
      replace V0 : Hid (VRow (· < w7.heap.size) w7 b0 n4 (sv s)) := V0.out.up hb
      replace V1 : Hid (VRow (· < w7.heap.size) w7 b1 n4 (bv o)) := V1.out.up hb
      replace V2 : Hid (VRow (· < w7.heap.size) w7 b2 n4 (iv cl)) := V2.out.up hb
      replace V3 : Hid (VRow (· < w7.heap.size) w7 b3 n4 (iv ix)) := V3.out.up hb
      replace V4 : Hid (VRow (· < w7.heap.size) w7 b4 n4 (iv be)) := V4.out.up hb
      replace V5 : Hid (VRow (· < w7.heap.size) w7 b5 n4 (iv so)) := V5.out.up hb
      replace VI : Hid (VRow (· < w7.heap.size) w7 (some ⟨ib, 0, none⟩) n4 (bv im)) := VI.out.up hb
      have B7 : Hid (Below w.heap.size w w7) := below_step B6.out (Nat.le_refl _) hb
      clear hv hb B6 HG EG
      go_wp2_with fail
      refine (cloneI a5 n5 c5 w.heap.size cz w7 (by omega) B7.out.size (HK.out.below B7.out) EK.out).mono ?_
      rintro e w8 ⟨b7, rfl, -, hv, hb, -⟩
      have V7 : Hid (VRow (· < w8.heap.size) w8 b7 n5 (iv cz)) := hv.mono (fun _ h => h.2)
      replace V0 : Hid (VRow (· < w8.heap.size) w8 b0 n4 (sv s)) := V0.out.up hb
      replace V1 : Hid (VRow (· < w8.heap.size) w8 b1 n4 (bv o)) := V1.out.up hb
      replace V2 : Hid (VRow (· < w8.heap.size) w8 b2 n4 (iv cl)) := V2.out.up hb
      replace V3 : Hid (VRow (· < w8.heap.size) w8 b3 n4 (iv ix)) := V3.out.up hb
      replace V4 : Hid (VRow (· < w8.heap.size) w8 b4 n4 (iv be)) := V4.out.up hb
      replace V5 : Hid (VRow (· < w8.heap.size) w8 b5 n4 (iv so)) := V5.out.up hb
      replace V6 : Hid (VRow (· < w8.heap.size) w8 b6 n4 (iv g)) := V6.out.up hb
      replace VI : Hid (VRow (· < w8.heap.size) w8 (some ⟨ib, 0, none⟩) n4 (bv im)) := VI.out.up hb
      have B8 : Hid (Below w.heap.size w w8) := below_step B7.out (Nat.le_refl _) hb
      clear hv hb B7 HK EK
      go_wp2_with fail
      refine (cloneI a6 n6 c6 w.heap.size mz w8 (by omega) B8.out.size (HM.out.below B8.out) EM.out).mono ?_
      rintro e w9 ⟨b8, rfl, -, hv, hb, -⟩
      have V8 : Hid (VRow (· < w9.heap.size) w9 b8 n6 (iv mz)) := hv.mono (fun _ h => h.2)
      replace V0 : Hid (VRow (· < w9.heap.size) w9 b0 n4 (sv s)) := V0.out.up hb
      replace V1 : Hid (VRow (· < w9.heap.size) w9 b1 n4 (bv o)) := V1.out.up hb
      replace V2 : Hid (VRow (· < w9.heap.size) w9 b2 n4 (iv cl)) := V2.out.up hb
      replace V3 : Hid (VRow (· < w9.heap.size) w9 b3 n4 (iv ix)) := V3.out.up hb
      replace V4 : Hid (VRow (· < w9.heap.size) w9 b4 n4 (iv be)) := V4.out.up hb
      replace V5 : Hid (VRow (· < w9.heap.size) w9 b5 n4 (iv so)) := V5.out.up hb
      replace V6 : Hid (VRow (· < w9.heap.size) w9 b6 n4 (iv g)) := V6.out.up hb
      replace V7 : Hid (VRow (· < w9.heap.size) w9 b7 n5 (iv cz)) := V7.out.up hb
      replace VI : Hid (VRow (· < w9.heap.size) w9 (some ⟨ib, 0, none⟩) n4 (bv im)) := VI.out.up hb
      have B9 : Hid (Below w.heap.size w w9) := below_step B8.out (Nat.le_refl _) hb
      clear hv hb B8 HM EM
      go_wp2_with fail
      refine (ops11 b0 b1 n4 n4 n4 w9.heap.size s o w9 (by omega) (Nat.le_refl _) V0.out V1.out).mono ?_
      rintro e w10 ⟨b9, rfl, hv, hb, hsz⟩
      have VO : Hid (ORow (· < w10.heap.size) w10 b9 n4 s o) := hv.mono (fun b h => by show b < w10.heap.size; omega)
      replace V0 : Hid (VRow (· < w10.heap.size) w10 b0 n4 (sv s)) := V0.out.up hb
      replace V1 : Hid (VRow (· < w10.heap.size) w10 b1 n4 (bv o)) := V1.out.up hb
      replace V2 : Hid (VRow (· < w10.heap.size) w10 b2 n4 (iv cl)) := V2.out.up hb
      replace V3 : Hid (VRow (· < w10.heap.size) w10 b3 n4 (iv ix)) := V3.out.up hb
      replace V4 : Hid (VRow (· < w10.heap.size) w10 b4 n4 (iv be)) := V4.out.up hb
      replace V5 : Hid (VRow (· < w10.heap.size) w10 b5 n4 (iv so)) := V5.out.up hb
      replace V6 : Hid (VRow (· < w10.heap.size) w10 b6 n4 (iv g)) := V6.out.up hb
      replace V7 : Hid (VRow (· < w10.heap.size) w10 b7 n5 (iv cz)) := V7.out.up hb
      replace V8 : Hid (VRow (· < w10.heap.size) w10 b8 n6 (iv mz)) := V8.out.up hb
      replace VI : Hid (VRow (· < w10.heap.size) w10 (some ⟨ib, 0, none⟩) n4 (bv im)) := VI.out.up hb
      have B10 : Hid (Below w.heap.size w w10) := below_step B9.out (Nat.le_refl _) hb
      clear hv hb hsz B9
      go_wp2_with fail
      refine (cloneI b6 n4 n4 w10.heap.size g w10 (by omega) (Nat.le_refl _) V6.out (fun h => by
        refine Nat.eq_zero_of_not_pos (fun h0 => ?_)
        obtain ⟨_, _, _, e, _⟩ := V6.out 0 h0
        rw [h] at e
        cases e)).mono ?_
      rintro e w11 ⟨ga, rfl, -, -, hb11, hg11⟩
      have B11 : Hid (Below w10.heap.size w10 w11) := hb11
      have HGR : Hid (0 < n4 → ga = some ⟨w10.heap.size, 0, none⟩ ∧ w11.rowIs w10.heap.size 21 n4 (iv g)) := hg11
      clear hb11 hg11
      go_wp2_with fail
      refine (room13 b7 n5 n5 C w10.heap.size cz w11 (by omega) hC2 B11.out.size (V7.out.below B11.out)).mono ?_
      rintro e w12 ⟨rfl, hb12, hrow⟩
      have B12 : Hid (Below w11.heap.size w11 w12) := hb12
      have HCR : Hid (w12.rowIs w11.heap.size 21 (n5 + C) (iv fun i => if i < n5 then cz i else 0)) := hrow
      clear hb12 hrow
      obtain ⟨D, rfl, rfl, rfl, rfl, rfl, rfl, rfl, rfl⟩ : ∃ D : Hist, D.n = n4 ∧ D.C = C ∧ D.s = s ∧ D.o = o ∧ D.cl = cl ∧ D.ix = ix ∧ D.be = be ∧ D.so = so := ⟨⟨n4, C, s, o, cl, ix, be, so⟩, rfl, rfl, rfl, rfl, rfl, rfl, rfl, rfl⟩
      obtain ⟨c', hc'⟩ : ∃ c' : Nat → Int, c' = fun i => if i < n5 then cz i else 0 := ⟨_, rfl⟩
      rw [← hc'] at HCR
      obtain ⟨mem, hmem⟩ : ∃ mem : Nat → Nat, mem = fun t => (mz t).toNat := ⟨_, rfl⟩
      have HME : Hid (∀ t, t < n6 → (mem t : Int) = mz t) := fun t ht => by rw [hmem]; exact Int.toNat_of_nonneg (HMZ.out t ht).1
      have HCE : Hid (∀ i, i < n5 → cz i = c' i) := fun i hi => by rw [hc']; exact (if_pos hi).symm
      have HCZ : Hid (∀ j, j < D.C → c' (n5 + j) = 0) := fun j hj => by rw [hc']; exact if_neg (by omega)
      have HMM : Hid (Mem D g k n6 mem) := by
        have key : ∀ x, EdgeOk D.n k g n6 mz x → x < 0 ∨ (0 ≤ x ∧ x < D.n ∧ ((∃ u, u < n6 ∧ (mem u : Int) = x) ∨ (0 ≤ g x.toNat ∧ g x.toNat < k))) := fun x h => by
          rcases h with h | ⟨h1, h2, ⟨u, hu, h⟩ | h⟩
          · exact .inl h
          · exact .inr ⟨h1, h2, .inl ⟨u, hu, by rw [HME.out u hu]; exact h⟩⟩
          · exact .inr ⟨h1, h2, .inr h⟩
        have hmt : ∀ t, mem t = (mz t).toNat := fun t => by rw [hmem]
        exact ⟨fun t ht => by have := HMZ.out t ht; rw [hmt]; omega, fun t ht => by rw [hmt]; exact key _ (HG1.out t ht).eb, fun t ht => by rw [hmt]; exact key _ (HG1.out t ht).es, fun t ht => by rw [hmt]; exact (HG1.out t ht).own⟩
      have HIM2 : Hid (∀ x, x < D.n → (im x = true ↔ ∃ u, u < n6 ∧ mem u = x)) := fun x hx => by
        rw [HIM.out x hx]
        exact ⟨fun ⟨u, hu, h⟩ => ⟨u, hu, by have := HME.out u hu; omega⟩, fun ⟨u, hu, h⟩ => ⟨u, hu, by have := HME.out u hu; omega⟩⟩
      clear hc' hmem HG1 HMZ HIM
      have V8 : Hid (VRow (· < w10.heap.size) w10 b8 n6 (iv fun t => (mem t : Int))) := V8.out.congr (fun i hi => by simp only [iv]; rw [HME.out i hi])
      have V7 : Hid (VRow (· < w10.heap.size) w10 b7 n5 (iv c')) := V7.out.congr (fun i hi => by simp only [iv]; rw [HCE.out i hi])
      obtain ⟨gb, hgb⟩ : ∃ gb, gb = w10.heap.size := ⟨_, rfl⟩
      obtain ⟨cb, hcb⟩ : ∃ cb, cb = w11.heap.size := ⟨_, rfl⟩
      have hgc : gb ≤ cb := by rw [hgb, hcb]; exact B11.out.size
      have hgl : 0 < D.n → gb < cb := fun h => by rw [hgb, hcb]; exact (HGR.out h).2.lt
      have hcl : cb < w12.heap.size := by rw [hcb]; exact HCR.out.lt
      have K12 : Kept (· < gb) w10 w12 := by
        rw [hgb]
        exact (Kept.of_below B11.out).trans ((Kept.of_below B12.out).mono (fun b (hb : b < w10.heap.size) => Nat.lt_of_lt_of_le hb B11.out.size))
      have hrest : ∀ b, b < gb → Rest w12 gb cb b := fun b hb => ⟨by omega, by omega, by omega⟩
      rw [← hgb] at V0 V1 V2 V3 V4 V5 V6 V7 V8 VO VI HGR
      rw [← hcb] at HCR ⊢
      have HK12 : Hid (Kept (· < gb) w10 w12) := K12
      have HREST : Hid (∀ b, b < gb → Rest w12 gb cb b) := hrest
      have HGRP : Hid (0 < D.n → w12.rowIs gb 21 D.n (iv g) ∧ gb ≠ cb ∧ ga = some ⟨gb, 0, none⟩) := fun h => by
        obtain ⟨h1, c1, h2, h3⟩ := HGR.out h
        refine ⟨⟨c1, ?_, h3⟩, by have := hgl h; omega, h1⟩
        rw [B12.out.block gb (by rw [← hcb]; exact hgl h)]
        exact h2
      have BW : Hid (Below w.heap.size w w12) := below_step (below_step B10.out (Nat.le_refl _) B11.out) (Nat.le_refl _) B12.out
      have HWG : Hid (w.heap.size ≤ gb) := by rw [hgb]; exact B10.out.size
      clear hgb hcb hgc hgl hcl K12 hrest HGR B11 B12 B10
      go_wp2_with fail
      refine (zz12 D ⟨b9, b2, b3, b4, b5⟩ ga b8 D.n gb cb k n5 (n5 + D.C) n6 n6 g c' mem w12 HGRP.out HCR.out ⟨(VO.out.kept HK12.out).mono HREST.out, (V2.out.kept HK12.out).mono HREST.out, (V3.out.kept HK12.out).mono HREST.out, (V4.out.kept HK12.out).mono HREST.out, (V5.out.kept HK12.out).mono HREST.out⟩ ((V8.out.kept HK12.out).mono HREST.out) HMM.out HNC.out (Nat.le_refl _) (by omega) hC1 hnl (by omega) HCZ.out).mono ?_
      rintro e w13 ⟨rfl, hk13, hg13, hc13⟩
      have HK13 : Hid (Kept (· < gb) w10 w13) := HK12.out.trans (hk13.mono HREST.out)
      have HJR : Hid (JR (· < w13.heap.size) D g c' mem im (gs g k mem n6) (cv n5 D.C c' (js D c' (gs g k mem n6) k mem n6)) n6 n5 ⟨b0, b1, b2, b3, b4, b5, b6, b7, b8, some ⟨ib, 0, none⟩, ga, some ⟨cb, 0, none⟩⟩ w13) := by
        have hup : ∀ b, b < gb → b < w13.heap.size := fun b hb => Nat.lt_of_lt_of_le (HREST.out b hb).1 hk13.size
        refine ⟨(V0.out.kept HK13.out).mono hup, (V1.out.kept HK13.out).mono hup, (V2.out.kept HK13.out).mono hup, (V3.out.kept HK13.out).mono hup, (V4.out.kept HK13.out).mono hup, (V5.out.kept HK13.out).mono hup, (V6.out.kept HK13.out).mono hup, (V7.out.kept HK13.out).mono hup, (V8.out.kept HK13.out).mono hup, (VI.out.kept HK13.out).mono hup, ?_, VRow.of_rowIs hc13 hc13.lt⟩
        by_cases h0 : 0 < D.n
        · show VRow _ w13 ga D.n _
          rw [(HGRP.out h0).2.2]
          exact VRow.of_rowIs (hg13 h0) (hg13 h0).lt
        · exact fun i hi => absurd hi (by omega)
      have BF : Hid (Below w.heap.size w w13) := by
        refine BW.out.trans ⟨hk13.os, hk13.tape, hk13.output, hk13.size, fun b hb => ?_⟩
        have hbg : b < gb := Nat.lt_of_lt_of_le hb HWG.out
        exact hk13.block b (HREST.out b hbg)
      clear hk13 hg13 hc13
      go_wp2_with fail
      refine (join14 D ⟨b0, b1, b2, b3, b4, b5, b6, b7, b8, some ⟨ib, 0, none⟩, ga, some ⟨cb, 0, none⟩⟩ g c' mem im n6 k n5 D.n (n5 + D.C) w13 HJR.out HMM.out HIM2.out HNC.out hC1 hC2 hnl (by omega) hn5).mono ?_
      rintro e w14 ⟨rfl, hb14⟩
      have BL : Hid (Below w.heap.size w w14) := below_step BF.out (Nat.le_refl _) hb14
      clear hb14
      go_wp2
      go_ret
      exact ⟨rfl, BL.out⟩

end Go.Proofs.Qxb6604061a
