import Derived.Test.Qxb6604061aMem
namespace Go.Proofs.Qxb6604061a
open Go.RowKit

theorem toList_ne {a b : ByteArray} (h : a ≠ b) : (a.toList == b.toList) = false := by
  rw [ByteArray.toList_eq, ByteArray.toList_eq]
  simp only [beq_eq_false_iff_ne, ne_eq]
  intro e
  apply h
  obtain ⟨x⟩ := a
  obtain ⟨y⟩ := b
  have : x = y := Array.toList_inj.1 e
  rw [this]

theorem ne_put {s : ByteArray} (h : s ≠ ⟨#[112, 117, 116]⟩) : ¬ s.toList = [112, 117, 116] := by
  have h1 := toList_ne h
  rw [ByteArray.toList_eq ⟨#[112, 117, 116]⟩] at h1
  simpa using h1

/-- Every operation but a put of unknown outcome. -/
def ordb (s : ByteArray) (o : Bool) : Bool := !decide (s = ⟨#[112, 117, 116]⟩) || o

def OrdPost (s : ByteArray) (o : Bool) (w : World) (e : Ending) (w' : World) : Prop := e = .returned (.bool (ordb s o)) ∧ w' = w

set_option maxHeartbeats 400000 in
theorem ordered17 (s : ByteArray) (o : Bool) (w : World) : Calls Try.prog 17 #[.string s, .bool o] w (OrdPost s o w) := by
  by_cases h : s = ⟨#[112, 117, 116]⟩
  · have ho : ordb s o = o := by simp [ordb, h]
    unfold OrdPost
    rw [ho]
    subst h
    clear ho
    go_enter Try.func17, Try.ntmps17
    go_wp2
    go_ret
    exact ⟨rfl, rfl⟩
  · have ho : ordb s o = true := by simp [ordb, h]
    unfold OrdPost
    rw [ho]
    have h' := ne_put h
    clear ho h
    go_enter Try.func17, Try.ntmps17
    go_wp2
    go_ret
    exact ⟨rfl, rfl⟩

/-- What guard 3 lets through. -/
structure G3 (n : Nat) (C : Int) (s : Nat → ByteArray) (o : Nat → Bool) (cl be so : Nat → Int) : Prop where
  c1 : 1 ≤ C
  c2 : C ≤ 1024
  be : ∀ i, i < n → be i < i
  so : ∀ i, i < n → so i < i
  cl : ∀ i, i < n → ordb (s i) (o i) = true → 0 ≤ cl i ∧ cl i < C

def G3Post (R : Prop) (w : World) (e : Ending) (w' : World) : Prop := ∃ (x : Bool) (q : Nat), e = .returned (.bool x) ∧ w' = w.drewN q ∧ (x = true → R)

set_option maxRecDepth 10000 in
set_option maxHeartbeats 4000000 in
theorem guard3 (B : Nat) (a ao a0 a1 a2 a3 : Option Addr) (n c no co n0 c0 n1 c1 n2 c2 n3 c3 : Nat) (C : Int) (s : Nat → ByteArray) (o : Nat → Bool) (cl be so : Nat → Int) (w : World) (hn : n ≤ 1024)
    (hs : VRow (· < B) w a n (sv s)) (ho : VRow (· < B) w ao no (bv o)) (hcl : VRow (· < B) w a0 n0 (iv cl)) (hbe : VRow (· < B) w a2 n2 (iv be)) (hso : VRow (· < B) w a3 n3 (iv so)) (hrg : ∀ i, i < n0 → -2147483648 ≤ cl i ∧ cl i ≤ 2147483647)
    (R : Prop) (hR : no = n → n0 = n → n1 = n → n2 = n → n3 = n → G3 n C s o cl be so → R) :
    Calls Try.prog 16 #[.slice a n c, .slice ao no co, .int .i64 C, .slice a0 n0 c0, .slice a1 n1 c1, .slice a2 n2 c2, .slice a3 n3 c3] w (G3Post R w) := by
  have HA : Hid (VRow (· < B) w a n (sv s)) := hs
  have HO : Hid (VRow (· < B) w ao no (bv o)) := ho
  have HC : Hid (VRow (· < B) w a0 n0 (iv cl)) := hcl
  have HB : Hid (VRow (· < B) w a2 n2 (iv be)) := hbe
  have HS : Hid (VRow (· < B) w a3 n3 (iv so)) := hso
  have HR : Hid (no = n → n0 = n → n1 = n → n2 = n → n3 = n → G3 n C s o cl be so → R) := hR
  have HG : Hid (∀ i, i < n0 → -2147483648 ≤ cl i ∧ cl i ≤ 2147483647) := hrg
  clear hs ho hcl hbe hso hR hrg
  go_enter Try.func16, Try.ntmps16
  by_cases x1 : C < 1
  · go_wp2
    go_ret
    exact ⟨false, 0, rfl, rfl, fun h => by cases h⟩
  have d1 : decide (C < 1) = false := decide_eq_false x1
  by_cases x2 : 1024 < C
  · go_wp2
    go_ret
    exact ⟨false, 0, rfl, rfl, fun h => by cases h⟩
  have d2 : decide (1024 < C) = false := decide_eq_false x2
  by_cases z1 : ¬ no = n
  · have f1 : ((no : Int) == (n : Int)) = false := by simp only [beq_eq_false_iff_ne]; omega
    go_wp2
    go_ret
    exact ⟨false, 0, rfl, rfl, fun h => by cases h⟩
  have y1 : no = n := by omega
  clear z1
  by_cases z2 : ¬ n0 = n
  · have f1 : ((n0 : Int) == (n : Int)) = false := by simp only [beq_eq_false_iff_ne]; omega
    subst y1
    go_wp2
    go_ret
    exact ⟨false, 0, rfl, rfl, fun h => by cases h⟩
  have y2 : n0 = n := by omega
  clear z2
  by_cases z3 : ¬ n1 = n
  · have f1 : ((n1 : Int) == (n : Int)) = false := by simp only [beq_eq_false_iff_ne]; omega
    subst y1 y2
    go_wp2
    go_ret
    exact ⟨false, 0, rfl, rfl, fun h => by cases h⟩
  have y3 : n1 = n := by omega
  clear z3
  by_cases z4 : ¬ n2 = n
  · have f1 : ((n2 : Int) == (n : Int)) = false := by simp only [beq_eq_false_iff_ne]; omega
    subst y1 y2 y3
    go_wp2
    go_ret
    exact ⟨false, 0, rfl, rfl, fun h => by cases h⟩
  have y4 : n2 = n := by omega
  clear z4
  by_cases z5 : ¬ n3 = n
  · have f1 : ((n3 : Int) == (n : Int)) = false := by simp only [beq_eq_false_iff_ne]; omega
    subst y1 y2 y3 y4
    go_wp2
    go_ret
    exact ⟨false, 0, rfl, rfl, fun h => by cases h⟩
  have y5 : n3 = n := by omega
  clear z5
  have HR2 : Hid (G3 n C s o cl be so → R) := HR.out y1 y2 y3 y4 y5
  clear HR
  subst y1 y2 y3 y4 y5
  go_wp2
  clear d1 d2
  go_loopw [16] (fun i wr => ∃ k q : Nat, k ≤ n3 ∧ i = .int .i64 k ∧ Hid (wr = w.drewN q) ∧ Hid (∀ j, j < k → be j < j ∧ so j < j ∧ (ordb (s j) (o j) = true → 0 ≤ cl j ∧ cl j < C))) (fun i _ => n3 - (intOf i).toNat)
  case atStart => exact ⟨0, 0, Nat.zero_le _, rfl, rfl, fun j hj => absurd hj (by omega)⟩
  case round =>
    obtain ⟨k, q, hk, rfl, HW, hI⟩ := hrel
    have cw : ∀ p : Addr, wr.cell? p = w.cell? p := fun p => by rw [HW.out]; rfl
    by_cases hlt : k < n3
    · have dk : decide ((k : Int) < (n3 : Int)) = true := decide_eq_true (by omega)
      obtain ⟨b0, f0, _, rfl, e0⟩ := HA.out k hlt
      obtain ⟨b1, f1, _, rfl, e1⟩ := HO.out k hlt
      obtain ⟨b2, f2, _, rfl, e2⟩ := HC.out k hlt
      obtain ⟨b3, f3, _, rfl, e3⟩ := HB.out k hlt
      obtain ⟨b4, f4, _, rfl, e4⟩ := HS.out k hlt
      obtain ⟨hg1, hg2⟩ := HG.out k hlt
      simp only [sv, bv, iv] at e0 e1 e2 e3 e4
      rw [← cw] at e0 e1 e2 e3 e4
      clear cw
      by_cases t1 : (k : Int) ≤ be k
      · have u1 : decide ((k : Int) ≤ be k) = true := decide_eq_true t1
        go_wp2
        go_ret
        exact ⟨false, q, rfl, HW.out, fun h => by cases h⟩
      have u1 : decide ((k : Int) ≤ be k) = false := decide_eq_false t1
      by_cases t2 : (k : Int) ≤ so k
      · have u2 : decide ((k : Int) ≤ so k) = true := decide_eq_true t2
        go_wp2
        go_ret
        exact ⟨false, q, rfl, HW.out, fun h => by cases h⟩
      have u2 : decide ((k : Int) ≤ so k) = false := decide_eq_false t2
      have T1 : Hid (be k < k ∧ so k < k) := ⟨by omega, by omega⟩
      clear t1 t2
      cases hord : ordb (s k) (o k) with
      | false =>
        have HO1 : Hid (ordb (s k) (o k) = false) := hord
        have hcall : ∀ w, Calls Try.prog 17 #[.string (s k), .bool (o k)] w (fun e w' => e = .returned (.bool false) ∧ w' = w) := fun w => by
          have := ordered17 (s k) (o k) w
          unfold OrdPost at this
          rw [hord] at this
          exact this
        have HCALL : Hid (∀ w, Calls Try.prog 17 #[.string (s k), .bool (o k)] w (fun e w' => e = .returned (.bool false) ∧ w' = w)) := hcall
        clear hord hcall
        go_upto_region 11 with fail
        go_quiet (first | (go_at_call 17; exact Calls.quiet_of_same (HCALL.out _)))
        go_wp2
        go_roundw
        case rel => exact ⟨k + 1, _, by omega, by go_num, by rw [HW.out]; exact World.drewN_drewN _ _ _, fun j hj => by
          by_cases e : j = k
          · subst e; exact ⟨T1.out.1, T1.out.2, fun h => by rw [HO1.out] at h; cases h⟩
          · exact hI.out j (by omega)⟩
        case measure => simp [intOf]; omega
      | true =>
        have HO1 : Hid (ordb (s k) (o k) = true) := hord
        have hcall : ∀ w, Calls Try.prog 17 #[.string (s k), .bool (o k)] w (fun e w' => e = .returned (.bool true) ∧ w' = w) := fun w => by
          have := ordered17 (s k) (o k) w
          unfold OrdPost at this
          rw [hord] at this
          exact this
        have HCALL : Hid (∀ w, Calls Try.prog 17 #[.string (s k), .bool (o k)] w (fun e w' => e = .returned (.bool true) ∧ w' = w)) := hcall
        clear hord hcall
        by_cases t1 : cl k < 0
        · have v1 : decide (cl k < 0) = true := decide_eq_true t1
          go_upto_region 11 with fail
          go_quiet (first | (go_at_call 17; exact Calls.quiet_of_same (HCALL.out _)))
          go_wp2
          go_ret
          exact ⟨false, _, rfl, by rw [HW.out]; exact World.drewN_drewN _ _ _, fun h => by cases h⟩
        have v1 : decide (cl k < 0) = false := decide_eq_false t1
        by_cases t2 : C ≤ cl k
        · have v2 : decide (C ≤ cl k) = true := decide_eq_true t2
          go_upto_region 11 with fail
          go_quiet (first | (go_at_call 17; exact Calls.quiet_of_same (HCALL.out _)))
          go_wp2
          go_ret
          exact ⟨false, _, rfl, by rw [HW.out]; exact World.drewN_drewN _ _ _, fun h => by cases h⟩
        have v2 : decide (C ≤ cl k) = false := decide_eq_false t2
        go_upto_region 11 with fail
        go_quiet (first | (go_at_call 17; exact Calls.quiet_of_same (HCALL.out _)))
        go_wp2
        go_roundw
        case rel => exact ⟨k + 1, _, by omega, by go_num, by rw [HW.out]; exact World.drewN_drewN _ _ _, fun j hj => by
          by_cases e : j = k
          · subst e; exact ⟨T1.out.1, T1.out.2, fun _ => ⟨by omega, by omega⟩⟩
          · exact hI.out j (by omega)⟩
        case measure => simp [intOf]; omega
    · have dk : decide ((k : Int) < (n3 : Int)) = false := decide_eq_false (by omega)
      go_wp2
      go_ret
      have hkn : k = n3 := by omega
      subst hkn
      exact ⟨true, q, rfl, HW.out, fun _ => HR2.out ⟨by omega, by omega, fun i hi => (hI.out i hi).1, fun i hi => (hI.out i hi).2.1, fun i hi => (hI.out i hi).2.2⟩⟩

end Go.Proofs.Qxb6604061a
