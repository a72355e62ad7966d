import Derived.Test.Qxb6604061aPh
import Derived.Deep.CutRange
import Derived.OwnWalk
namespace Go.Proofs.Qxb6604061a
open Go.RowKit

/-- A fresh row of bools beside what is kept. -/
def Kp (nb n : Nat) (w : World) (im : Nat → Bool) (wr : World) : Prop := Kept (· < nb) w wr ∧ wr.rowIs nb 4 n (bv im)

theorem Kp.drewN {nb n : Nat} {w wr : World} {im : Nat → Bool} (h : Kp nb n w im wr) (q : Nat) : Kp nb n w im (wr.drewN q) := ⟨⟨h.1.os, h.1.tape, h.1.output, h.1.size, h.1.block⟩, h.2⟩

theorem brow_set {w : World} {b n : Nat} {z : Nat → Bool} (h : w.rowIs b 4 n (bv z)) (x : Nat) (v : Bool) : (w.setCell ⟨b, x, none⟩ (.bool v)).rowIs b 4 n (bv fun y => if y = x then v else z y) :=
  (h.set x _).congr (fun i _ => by unfold bv; by_cases e : i = x <;> simp [e])

theorem Kp.set {nb n : Nat} {w wr : World} {im : Nat → Bool} (h : Kp nb n w im wr) (x : Nat) (v : Bool) : Kp nb n w (fun y => if y = x then v else im y) (wr.setCell ⟨nb, x, none⟩ (.bool v)) :=
  ⟨kept_set h.1 (by show ¬ nb < nb; omega) _, brow_set h.2 x v⟩

def EdgeOk (n k : Nat) (g : Nat → Int) (m : Nat) (mz : Nat → Int) (x : Int) : Prop := x < 0 ∨ (0 ≤ x ∧ x < n ∧ ((∃ u, u < m ∧ mz u = x) ∨ (0 ≤ g x.toNat ∧ g x.toNat < k)))

/-- What guard 1 asks of member i. -/
structure G1 (n C k m : Nat) (s : Nat → ByteArray) (o : Nat → Bool) (cl be so g mz : Nat → Int) (i : Nat) : Prop where
  own : ordb (s i) (o i) = true → 0 ≤ cl i ∧ cl i < C
  eb : EdgeOk n k g m mz (be i)
  es : EdgeOk n k g m mz (so i)

def G1Post (R : Prop) (n k m : Nat) (mz : Nat → Int) (w : World) (e : Ending) (w' : World) : Prop :=
  ∃ (b : Bool) (x : Int) (v : Value), e = .returned (.tuple #[.int .i64 x, v, .bool b]) ∧ Below w.heap.size w w' ∧ (b = true → x = (k : Int) ∧ v = .slice (some ⟨w.heap.size, 0, none⟩) n n ∧ R ∧ ∃ im, w'.rowIs w.heap.size 4 n (bv im) ∧ ∀ x, x < n → (im x = true ↔ ∃ u, u < m ∧ mz u = (x : Int)))

/-! ### hb1Room -/

def RoomPost (n C : Nat) (z : Nat → Int) (w : World) (e : Ending) (w' : World) : Prop :=
  e = .returned (.slice (some ⟨w.heap.size, 0, none⟩) n (n + C)) ∧ Below w.heap.size w w' ∧ w'.rowIs w.heap.size 21 (n + C) (iv fun i => if i < n then z i else 0)

set_option maxHeartbeats 400000 in
theorem room13 (a : Option Addr) (n c C B : Nat) (z : Nat → Int) (w : World) (hlen : n ≤ 300000) (hC : C ≤ 65536) (hB : B ≤ w.heap.size) (hr : VRow (· < B) w a n (iv z)) :
    Calls Try.prog 13 #[.slice a n c, .int .i64 (C : Int)] w (RoomPost n C z w) := by
  have hmk := make_cap n (n + C) (by omega) (by omega)
  simp only [Int.natCast_add] at hmk
  have HR : Hid (VRow (· < B) w a n (iv z)) := hr
  clear hr
  go_enter Try.func13, Try.ntmps13
  go_wp2
  clear hmk
  go_loopw [6] (fun i wr => ∃ k : Nat, k ≤ n ∧ i = .int .i64 k ∧ Hid (wr.rowIs w.heap.size 21 (n + C) (fun j => .int .i32 (if j < k then z j else 0)) ∧ Below w.heap.size w wr)) (fun i _ => n - (intOf i).toNat)
  case atStart => exact ⟨0, Nat.zero_le _, rfl, (World.rowIs_made _ _ _ _).congr (fun i _ => by simp), (Below.refl _ _).alloc (Nat.le_refl _) _⟩
  case round =>
    obtain ⟨k, hk, rfl, HW⟩ := hrel
    by_cases hlt : k < n
    · obtain ⟨b, off, hb, rfl, hc⟩ := HR.out k hlt
      simp only [iv] at hc
      have hc1 : wr.cell? ⟨b, off + k, none⟩ = some (.int .i32 (z k)) := by rw [HW.out.2.cell (show (⟨b, off + k, none⟩ : Addr).block < w.heap.size from Nat.lt_of_lt_of_le hb hB)]; exact hc
      have hc2 := HW.out.1.cell (i := k) (by omega)
      have hf2 := HW.out.1.frozen k
      clear hc
      go_wp2
      go_roundw
      case rel =>
        refine ⟨k + 1, by omega, by go_num, (HW.out.1.set k _).congr (fun i hi => ?_), HW.out.2.setCell (Nat.le_refl _) _⟩
        by_cases e : i = k
        · subst e; simp
        · have : i < k + 1 ↔ i < k := by omega
          simp [e, this]
      case measure => simp [intOf]; omega
    · go_wp2
      go_ret
      have hk' : k = n := by omega
      subst hk'
      exact ⟨rfl, HW.out.2, HW.out.1.congr (fun i hi => rfl)⟩

set_option maxRecDepth 10000 in
set_option maxHeartbeats 4000000 in
theorem guard1 (a ao a0 a1 a2 a3 a4 a5 a6 : Option Addr) (n c no co n0 c0 n1 c1 n2 c2 n3 c3 n4 c4 n5 c5 n6 c6 C : Nat) (s : Nat → ByteArray) (o : Nat → Bool) (cl be so g mz : Nat → Int) (w : World)
    (hC1 : 1 ≤ C) (hC2 : C ≤ 65536) (hn : n ≤ 262144) (hn5 : n5 ≤ 262144) (hn6 : n6 ≤ 262144)
    (hs : VRow (· < w.heap.size) w a n (sv s)) (ho : VRow (· < w.heap.size) w ao no (bv o)) (hcl : VRow (· < w.heap.size) w a0 n0 (iv cl)) (hbe : VRow (· < w.heap.size) w a2 n2 (iv be)) (hso : VRow (· < w.heap.size) w a3 n3 (iv so)) (hgr : VRow (· < w.heap.size) w a4 n4 (iv g)) (hme : VRow (· < w.heap.size) w a6 n6 (iv mz))
    (rc : ∀ i, i < n0 → -2147483648 ≤ cl i ∧ cl i ≤ 2147483647) (rb : ∀ i, i < n2 → -2147483648 ≤ be i ∧ be i ≤ 2147483647) (rs : ∀ i, i < n3 → -2147483648 ≤ so i ∧ so i ≤ 2147483647) (rg : ∀ i, i < n4 → -2147483648 ≤ g i ∧ g i ≤ 2147483647) (rm : ∀ i, i < n6 → -2147483648 ≤ mz i ∧ mz i ≤ 2147483647)
    (R : Prop) (hR : no = n → n0 = n → n1 = n → n2 = n → n3 = n → n4 = n → n5 = (n5 / C) * C → (∀ t, t < n6 → 0 ≤ mz t ∧ mz t < n) → (∀ t, t < n6 → G1 n C (n5 / C) n6 s o cl be so g mz (mz t).toNat) → R) :
    Calls Try.prog 7 #[.slice a n c, .slice ao no co, .int .i64 (C : Int), .slice a0 n0 c0, .slice a1 n1 c1, .slice a2 n2 c2, .slice a3 n3 c3, .slice a4 n4 c4, .slice a5 n5 c5, .slice a6 n6 c6] w (G1Post R n (n5 / C) n6 mz w) := by
  have HA : Hid (VRow (· < w.heap.size) w a n (sv s)) := hs
  have HO : Hid (VRow (· < w.heap.size) w ao no (bv o)) := ho
  have HC : Hid (VRow (· < w.heap.size) w a0 n0 (iv cl)) := hcl
  have HB : Hid (VRow (· < w.heap.size) w a2 n2 (iv be)) := hbe
  have HS : Hid (VRow (· < w.heap.size) w a3 n3 (iv so)) := hso
  have HG : Hid (VRow (· < w.heap.size) w a4 n4 (iv g)) := hgr
  have HM : Hid (VRow (· < w.heap.size) w a6 n6 (iv mz)) := hme
  have RC : Hid (∀ i, i < n0 → -2147483648 ≤ cl i ∧ cl i ≤ 2147483647) := rc
  have RB : Hid (∀ i, i < n2 → -2147483648 ≤ be i ∧ be i ≤ 2147483647) := rb
  have RS : Hid (∀ i, i < n3 → -2147483648 ≤ so i ∧ so i ≤ 2147483647) := rs
  have RG : Hid (∀ i, i < n4 → -2147483648 ≤ g i ∧ g i ≤ 2147483647) := rg
  have RM : Hid (∀ i, i < n6 → -2147483648 ≤ mz i ∧ mz i ≤ 2147483647) := rm
  obtain ⟨k, hk⟩ : ∃ k, k = n5 / C := ⟨_, rfl⟩
  rw [← hk] at hR ⊢
  have HR : Hid (no = n → n0 = n → n1 = n → n2 = n → n3 = n → n4 = n → n5 = k * C → (∀ t, t < n6 → 0 ≤ mz t ∧ mz t < n) → (∀ t, t < n6 → G1 n C k n6 s o cl be so g mz (mz t).toNat) → R) := hR
  have hquo : (n5 : Int).tdiv (C : Int) = (k : Int) := by rw [hk]; exact (Int.ofNat_tdiv n5 C)
  have hkl : k ≤ 262144 := by rw [hk]; exact Nat.le_trans (Nat.div_le_self _ _) hn5
  obtain ⟨ρ, hρ⟩ : ∃ ρ, ρ = n5 % C := ⟨_, rfl⟩
  have hrem : (n5 : Int).tmod (C : Int) = (ρ : Int) := by rw [hρ]; exact (Int.ofNat_tmod n5 C)
  have HNK : Hid (ρ = 0 → n5 = k * C) := fun h => by
    have := Nat.div_add_mod n5 C
    rw [← hk, ← hρ, h, Nat.mul_comm] at this
    omega
  have hρl : ρ < C := by rw [hρ]; exact Nat.mod_lt _ hC1
  clear hs ho hcl hbe hso hgr hme rc rb rs rg rm hR hk hρ
  have hcz : ¬ (C : Int) = 0 := by omega
  have d1 : decide ((C : Int) < 1) = false := decide_eq_false (by omega)
  have d2 : decide ((65536 : Int) < (C : Int)) = false := decide_eq_false (by omega)
  go_enter Try.func7, Try.ntmps7
  by_cases z1 : ¬ no = n
  · have f1 : ((no : Int) == (n : Int)) = false := by simp only [beq_eq_false_iff_ne]; omega
    go_wp2
    go_ret3
    exact ⟨false, 0, _, rfl, Below.refl _ _, fun h => by cases h⟩
  have y1 : no = n := by omega
  clear z1
  by_cases z2 : ¬ n0 = n
  · have f1 : ((n0 : Int) == (n : Int)) = false := by simp only [beq_eq_false_iff_ne]; omega
    subst y1
    go_wp2
    go_ret3
    exact ⟨false, 0, _, rfl, Below.refl _ _, fun h => by cases h⟩
  have y2 : n0 = n := by omega
  clear z2
  by_cases z3 : ¬ n1 = n
  · have f1 : ((n1 : Int) == (n : Int)) = false := by simp only [beq_eq_false_iff_ne]; omega
    subst y1 y2
    go_wp2
    go_ret3
    exact ⟨false, 0, _, rfl, Below.refl _ _, fun h => by cases h⟩
  have y3 : n1 = n := by omega
  clear z3
  by_cases z4 : ¬ n2 = n
  · have f1 : ((n2 : Int) == (n : Int)) = false := by simp only [beq_eq_false_iff_ne]; omega
    subst y1 y2 y3
    go_wp2
    go_ret3
    exact ⟨false, 0, _, rfl, Below.refl _ _, fun h => by cases h⟩
  have y4 : n2 = n := by omega
  clear z4
  by_cases z5 : ¬ n3 = n
  · have f1 : ((n3 : Int) == (n : Int)) = false := by simp only [beq_eq_false_iff_ne]; omega
    subst y1 y2 y3 y4
    go_wp2
    go_ret3
    exact ⟨false, 0, _, rfl, Below.refl _ _, fun h => by cases h⟩
  have y5 : n3 = n := by omega
  clear z5
  by_cases z6 : ¬ n4 = n
  · have f1 : ((n4 : Int) == (n : Int)) = false := by simp only [beq_eq_false_iff_ne]; omega
    subst y1 y2 y3 y4 y5
    go_wp2
    go_ret3
    exact ⟨false, 0, _, rfl, Below.refl _ _, fun h => by cases h⟩
  have y6 : n4 = n := by omega
  clear z6
  have HR2 : Hid (n5 = k * C → (∀ t, t < n6 → 0 ≤ mz t ∧ mz t < n) → (∀ t, t < n6 → G1 n C k n6 s o cl be so g mz (mz t).toNat) → R) := HR.out y1 y2 y3 y4 y5 y6
  clear HR
  subst y1 y2 y3 y4 y5 y6
  by_cases hz : ¬ ρ = 0
  · have f1 : ((ρ : Int) == 0) = false := by simp only [beq_eq_false_iff_ne]; omega
    go_wp2
    go_ret3
    exact ⟨false, 0, _, rfl, Below.refl _ _, fun h => by cases h⟩
  have hz0 : ρ = 0 := by omega
  have HNC : Hid (n5 = k * C) := HNK.out hz0
  subst hz0
  simp only [Int.natCast_zero] at hrem
  clear hz HNK
  have hmk := run_make_row' (P := Try.prog) 23 4 _ 1 Try.underlying23 Try.info4 rfl .i64 .i64 n4 (by omega) (by omega)
  obtain ⟨nb, hnb⟩ : ∃ nb, nb = w.heap.size := ⟨_, rfl⟩
  have HNB : Hid (nb = w.heap.size) := hnb
  rw [← hnb] at HA HO HC HB HS HG HM
  clear hnb
  go_wp2
  clear hmk d1 d2 hrem hquo
  rw [← HNB.out]
  go_loopw [26] (fun i wr => ∃ (t : Nat) (im : Nat → Bool), t ≤ n6 ∧ i = .int .i64 t ∧ Hid (Kp nb n4 w im wr) ∧ Hid (∀ x, x < n4 → (im x = true ↔ ∃ u, u < t ∧ mz u = (x : Int))) ∧ Hid (∀ u, u < t → 0 ≤ mz u ∧ mz u < n4)) (fun i _ => n6 - (intOf i).toNat)
  case atStart => exact ⟨0, fun _ => false, Nat.zero_le _, rfl, ⟨Kept.of_below ((Below.refl _ _).alloc (by rw [HNB.out]; exact Nat.le_refl _) _), by rw [HNB.out]; exact World.rowIs_made _ _ _ _⟩, fun x _ => ⟨fun h => (by cases h), fun ⟨u, hu, _⟩ => absurd hu (by omega)⟩, fun u hu => absurd hu (by omega)⟩
  case round =>
    obtain ⟨t, im, ht, rfl, HKP, HIM, HLT⟩ := hrel
    by_cases hlt : t < n6
    · have dt : decide ((t : Int) < (n6 : Int)) = true := decide_eq_true (by omega)
      obtain ⟨bm, om, -, ea, e1⟩ := (HM.out.kept HKP.out.1) t hlt
      subst ea
      simp only [iv] at e1
      obtain ⟨r1, r2⟩ := RM.out t hlt
      generalize hmz : mz t = z at e1 r1 r2
      have HZ : Hid (mz t = z) := hmz
      clear hmz
      by_cases hz : z < 0
      · have d1 : decide (z < 0) = true := decide_eq_true hz
        go_wp2
        go_ret3
        exact ⟨false, 0, _, rfl, (by have h := HKP.out.1; rw [HNB.out] at h; exact h.below), fun h => by cases h⟩
      have d1 : decide (z < 0) = false := decide_eq_false hz
      obtain ⟨p, rfl⟩ := Int.eq_ofNat_of_zero_le (show 0 ≤ z by omega)
      by_cases hp : n4 ≤ p
      · have d2 : decide ((n4 : Int) ≤ (p : Int)) = true := decide_eq_true (by omega)
        go_wp2
        go_ret3
        exact ⟨false, 0, _, rfl, (by have h := HKP.out.1; rw [HNB.out] at h; exact h.below), fun h => by cases h⟩
      have d2 : decide ((n4 : Int) ≤ (p : Int)) = false := decide_eq_false (by omega)
      have hpl : p < n4 := by omega
      have dp : decide ((p : Int) < (n4 : Int)) = true := decide_eq_true (by omega)
      have g1 := HKP.out.2.cell hpl
      have f1 := HKP.out.2.frozen p
      simp only [bv] at g1
      go_wp2
      go_roundw
      case rel => exact ⟨t + 1, _, by omega, by go_num, HKP.out.set p true, fun x hx => by
        by_cases e : x = p
        · subst e
          simp only [if_pos]
          exact ⟨fun _ => ⟨t, by omega, HZ.out⟩, fun _ => trivial⟩
        · simp only [if_neg e]
          refine ⟨fun h => ?_, fun ⟨u, hu, h⟩ => (HIM.out x hx).2 ⟨u, ?_, h⟩⟩
          · obtain ⟨u, hu, h2⟩ := (HIM.out x hx).1 h
            exact ⟨u, by omega, h2⟩
          · by_cases e2 : u = t
            · subst e2
              have := HZ.out
              omega
            · omega, fun u hu => by
        by_cases e : u = t
        · subst e; rw [HZ.out]; omega
        · exact HLT.out u (by omega)⟩
      case measure => simp [intOf]; omega
    have dt : decide ((t : Int) < (n6 : Int)) = false := decide_eq_false (by omega)
    have htn : t = n6 := by omega
    subst htn
    go_wp2
    clear dt hlt ht
    go_loopw [28] (fun i wr => ∃ (u : Nat), u ≤ t ∧ i = .int .i64 u ∧ Hid (Kp nb n4 w im wr) ∧ Hid (∀ x, x < u → G1 n4 C k t s o cl be so g mz (mz x).toNat)) (fun i _ => t - (intOf i).toNat)
    case atStart => exact ⟨0, Nat.zero_le _, rfl, HKP.out, fun u hu => absurd hu (by omega)⟩
    case round =>
      clear HKP
      obtain ⟨u, hu, rfl, HKP, HGG⟩ := hrel
      by_cases hlt : u < t
      · have dt : decide ((u : Int) < (t : Int)) = true := decide_eq_true (by omega)
        obtain ⟨bm, om, -, ea, e1⟩ := (HM.out.kept HKP.out.1) u hlt
        subst ea
        simp only [iv] at e1
        obtain ⟨r1, r2⟩ := HLT.out u hlt
        generalize hmz : mz u = z at e1 r1 r2
        have HZ : Hid (mz u = z) := hmz
        clear hmz
        obtain ⟨q, rfl⟩ := Int.eq_ofNat_of_zero_le r1
        have hq : q < n4 := by omega
        have dq : decide ((q : Int) < (n4 : Int)) = true := decide_eq_true (by omega)
        obtain ⟨bs, os, -, es, -⟩ := (HA.out.kept HKP.out.1) q hq
        obtain ⟨bo, oo, -, eo, -⟩ := (HO.out.kept HKP.out.1) q hq
        obtain ⟨bc, oc, -, ec, -⟩ := (HC.out.kept HKP.out.1) q hq
        obtain ⟨bb, ob, -, eb, -⟩ := (HB.out.kept HKP.out.1) q hq
        obtain ⟨br, or', -, er, -⟩ := (HS.out.kept HKP.out.1) q hq
        obtain ⟨bg, og, -, eg, -⟩ := (HG.out.kept HKP.out.1) q hq
        subst es eo ec eb er eg
        have RD : Hid (∀ w', Kept (· < nb) w w' → ∀ x, x < n4 → w'.cell? ⟨bs, os + x, none⟩ = some (.string (s x)) ∧ w'.cell? ⟨bo, oo + x, none⟩ = some (.bool (o x)) ∧ w'.cell? ⟨bc, oc + x, none⟩ = some (.int .i32 (cl x)) ∧ w'.cell? ⟨bb, ob + x, none⟩ = some (.int .i32 (be x)) ∧ w'.cell? ⟨br, or' + x, none⟩ = some (.int .i32 (so x)) ∧ w'.cell? ⟨bg, og + x, none⟩ = some (.int .i32 (g x))) := by
          intro w' hk x hx
          have pick : ∀ {b off : Nat} {f : Nat → Value} (_ : VRow (· < nb) w' (some ⟨b, off, none⟩) n4 f), w'.cell? ⟨b, off + x, none⟩ = some (f x) := fun hv => by
            obtain ⟨b1, o1, _, e1, e2⟩ := hv x hx
            simp only [Option.some.injEq, Addr.mk.injEq, and_true] at e1
            obtain ⟨rfl, rfl⟩ := e1
            exact e2
          exact ⟨pick (HA.out.kept hk), pick (HO.out.kept hk), pick (HC.out.kept hk), pick (HB.out.kept hk), pick (HS.out.kept hk), pick (HG.out.kept hk)⟩
        obtain ⟨e2, e3, e4, -, -, -⟩ := RD.out _ HKP.out.1 q hq
        obtain ⟨c1, c2⟩ := RC.out q hq
        go_upto_region 21 with fail
        go_cut [140] from 106 to 178 (fun cc wx => cc = .bool (ordb (s q) (o q) && (decide (cl q < 0) || decide ((C : Int) ≤ cl q))) ∧ Hid (Kp nb n4 w im wx))
        case first =>
          cases hob : ordb (s q) (o q) with
          | false =>
            have HCALL : Hid (∀ w, Calls Try.prog 17 #[.string (s q), .bool (o q)] w (fun e w' => e = .returned (.bool false) ∧ w' = w)) := fun w => by
              have := ordered17 (s q) (o q) w
              unfold OrdPost at this
              rw [hob] at this
              exact this
            have HOB : Hid (ordb (s q) (o q) = false) := hob
            clear hob
            go_quiet (first | (go_at_call 17; exact Calls.quiet_of_same (HCALL.out _)))
            go_wp2
            go_meet
            exact ⟨by rw [HOB.out]; rfl, HKP.out.drewN _⟩
          | true =>
            have HCALL : Hid (∀ w, Calls Try.prog 17 #[.string (s q), .bool (o q)] w (fun e w' => e = .returned (.bool true) ∧ w' = w)) := fun w => by
              have := ordered17 (s q) (o q) w
              unfold OrdPost at this
              rw [hob] at this
              exact this
            have HOB : Hid (ordb (s q) (o q) = true) := hob
            clear hob
            by_cases t1 : cl q < 0
            · have v1 : decide (cl q < 0) = true := decide_eq_true t1
              have V1 : Hid (decide (cl q < 0) = true) := v1
              go_quiet (first | (go_at_call 17; exact Calls.quiet_of_same (HCALL.out _)))
              go_wp2
              go_meet
              exact ⟨by rw [HOB.out, V1.out]; rfl, HKP.out.drewN _⟩
            have v1 : decide (cl q < 0) = false := decide_eq_false t1
            have V1 : Hid (decide (cl q < 0) = false) := v1
            by_cases t2 : (C : Int) ≤ cl q
            · have v2 : decide ((C : Int) ≤ cl q) = true := decide_eq_true t2
              have V2 : Hid (decide ((C : Int) ≤ cl q) = true) := v2
              go_quiet (first | (go_at_call 17; exact Calls.quiet_of_same (HCALL.out _)))
              go_wp2
              go_meet
              exact ⟨by rw [HOB.out, V1.out, V2.out]; rfl, HKP.out.drewN _⟩
            · have v2 : decide ((C : Int) ≤ cl q) = false := decide_eq_false t2
              have V2 : Hid (decide ((C : Int) ≤ cl q) = false) := v2
              go_quiet (first | (go_at_call 17; exact Calls.quiet_of_same (HCALL.out _)))
              go_wp2
              go_meet
              exact ⟨by rw [HOB.out, V1.out, V2.out]; rfl, HKP.out.drewN _⟩
        case rest =>
          clear HKP e2 e3 e4 c1 c2
          obtain ⟨rfl, HKP⟩ := hcut
          have hbq : (ordb (s q) (o q) && (decide (cl q < 0) || decide ((C : Int) ≤ cl q))) = true ∨ (ordb (s q) (o q) && (decide (cl q < 0) || decide ((C : Int) ≤ cl q))) = false := by cases (ordb (s q) (o q) && (decide (cl q < 0) || decide ((C : Int) ≤ cl q))) <;> simp
          rcases hbq with hb | hb
          · rw [hb]
            clear hb
            go_wp2
            go_ret3
            exact ⟨false, 0, _, rfl, (by have h := HKP.out.1; rw [HNB.out] at h; exact h.below), fun h => by cases h⟩
          rw [hb]
          have HOWN : Hid (ordb (s q) (o q) = true → 0 ≤ cl q ∧ cl q < C) := fun h => by
            rw [h, Bool.true_and, Bool.or_eq_false_iff, decide_eq_false_iff_not, decide_eq_false_iff_not] at hb
            omega
          clear hb
          go_wp2
          go_loopw [30] (fun e wr => ∃ (E : Nat), E ≤ 2 ∧ e = .int .i64 E ∧ Hid (Kp nb n4 w im wr) ∧ Hid ((0 < E → EdgeOk n4 k g t mz (be q)) ∧ (1 < E → EdgeOk n4 k g t mz (so q)))) (fun e _ => 2 - (intOf e).toNat)
          case atStart => exact ⟨0, by omega, rfl, HKP.out, fun h => absurd h (by omega), fun h => absurd h (by omega)⟩
          case round =>
            clear HKP
            obtain ⟨E, hE, rfl, HKP, HED⟩ := hrel
            by_cases hE2 : E = 2
            · subst hE2
              go_wp2
              go_roundw
              case rel => exact ⟨u + 1, by omega, by go_num, HKP.out, fun x hx => by
                by_cases e : x = u
                · subst e; rw [HZ.out, Int.toNat_natCast]; exact ⟨HOWN.out, HED.out.1 (by omega), HED.out.2 (by omega)⟩
                · exact HGG.out x (by omega)⟩
              case measure => simp [intOf]; omega
            have hE1 : E = 0 ∨ E = 1 := by omega
            clear hE hE2
            obtain ⟨-, -, -, e4, e5, -⟩ := RD.out _ HKP.out.1 q hq
            rcases hE1 with rfl | rfl
            · obtain ⟨r3, r4⟩ := RB.out q hq
              obtain ⟨z, hz⟩ : ∃ z, z = be q := ⟨_, rfl⟩
              rw [← hz] at r3 r4 e4
              have HZE : Hid (z = be q) := hz
              clear hz
              by_cases hz0 : z < 0
              · have d0 : decide (z < 0) = true := decide_eq_true hz0
                go_wp2
                go_roundw
                case rel => exact ⟨1, by omega, rfl, HKP.out, ⟨fun _ => by rw [← HZE.out]; exact .inl hz0, fun h => absurd h (by omega)⟩⟩
                case measure => simp [intOf]
              have d0 : decide (z < 0) = false := decide_eq_false hz0
              obtain ⟨p, rfl⟩ := Int.eq_ofNat_of_zero_le (show 0 ≤ z by omega)
              by_cases hp : n4 ≤ p
              · have d2 : decide ((n4 : Int) ≤ (p : Int)) = true := decide_eq_true (by omega)
                go_wp2
                go_ret3
                exact ⟨false, 0, _, rfl, (by have h := HKP.out.1; rw [HNB.out] at h; exact h.below), fun h => by cases h⟩
              have d2 : decide ((n4 : Int) ≤ (p : Int)) = false := decide_eq_false (by omega)
              have hpl : p < n4 := by omega
              have dp : decide ((p : Int) < (n4 : Int)) = true := decide_eq_true (by omega)
              have g1 := HKP.out.2.cell hpl
              simp only [bv] at g1
              cases hip : im p with
              | true =>
                rw [hip] at g1
                have HIP : Hid (∃ u, u < t ∧ mz u = (p : Int)) := (HIM.out p hpl).1 hip
                clear hip
                go_wp2
                go_roundw
                case rel => exact ⟨1, by omega, rfl, HKP.out, ⟨fun _ => by rw [← HZE.out]; exact .inr ⟨by omega, by omega, .inl HIP.out⟩, fun h => absurd h (by omega)⟩⟩
                case measure => simp [intOf]
              | false =>
                rw [hip] at g1
                clear hip
                obtain ⟨-, -, -, -, -, e6⟩ := RD.out _ HKP.out.1 p hpl
                obtain ⟨r5, r6⟩ := RG.out p hpl
                obtain ⟨gp, hgp⟩ : ∃ gp, gp = g p := ⟨_, rfl⟩
                rw [← hgp] at e6 r5 r6
                have HGP : Hid (gp = g p) := hgp
                clear hgp
                by_cases k1 : gp < 0
                · have d3 : decide (gp < 0) = true := decide_eq_true k1
                  go_wp2
                  go_ret3
                  exact ⟨false, 0, _, rfl, (by have h := HKP.out.1; rw [HNB.out] at h; exact h.below), fun h => by cases h⟩
                have d3 : decide (gp < 0) = false := decide_eq_false k1
                by_cases k2 : (k : Int) ≤ gp
                · have d4 : decide ((k : Int) ≤ gp) = true := decide_eq_true k2
                  go_wp2
                  go_ret3
                  exact ⟨false, 0, _, rfl, (by have h := HKP.out.1; rw [HNB.out] at h; exact h.below), fun h => by cases h⟩
                have d4 : decide ((k : Int) ≤ gp) = false := decide_eq_false k2
                go_wp2
                go_roundw
                case rel => exact ⟨1, by omega, rfl, HKP.out, ⟨fun _ => by rw [← HZE.out]; exact .inr ⟨by omega, by omega, .inr (by rw [Int.toNat_natCast, ← HGP.out]; omega)⟩, fun h => absurd h (by omega)⟩⟩
                case measure => simp [intOf]
            · obtain ⟨r3, r4⟩ := RS.out q hq
              obtain ⟨z, hz⟩ : ∃ z, z = so q := ⟨_, rfl⟩
              rw [← hz] at r3 r4 e5
              have HZE : Hid (z = so q) := hz
              clear hz
              by_cases hz0 : z < 0
              · have d0 : decide (z < 0) = true := decide_eq_true hz0
                go_wp2
                go_roundw
                case rel => exact ⟨2, by omega, rfl, HKP.out, ⟨fun _ => HED.out.1 (by omega), fun _ => by rw [← HZE.out]; exact .inl hz0⟩⟩
                case measure => simp [intOf]
              have d0 : decide (z < 0) = false := decide_eq_false hz0
              obtain ⟨p, rfl⟩ := Int.eq_ofNat_of_zero_le (show 0 ≤ z by omega)
              by_cases hp : n4 ≤ p
              · have d2 : decide ((n4 : Int) ≤ (p : Int)) = true := decide_eq_true (by omega)
                go_wp2
                go_ret3
                exact ⟨false, 0, _, rfl, (by have h := HKP.out.1; rw [HNB.out] at h; exact h.below), fun h => by cases h⟩
              have d2 : decide ((n4 : Int) ≤ (p : Int)) = false := decide_eq_false (by omega)
              have hpl : p < n4 := by omega
              have dp : decide ((p : Int) < (n4 : Int)) = true := decide_eq_true (by omega)
              have g1 := HKP.out.2.cell hpl
              simp only [bv] at g1
              cases hip : im p with
              | true =>
                rw [hip] at g1
                have HIP : Hid (∃ u, u < t ∧ mz u = (p : Int)) := (HIM.out p hpl).1 hip
                clear hip
                go_wp2
                go_roundw
                case rel => exact ⟨2, by omega, rfl, HKP.out, ⟨fun _ => HED.out.1 (by omega), fun _ => by rw [← HZE.out]; exact .inr ⟨by omega, by omega, .inl HIP.out⟩⟩⟩
                case measure => simp [intOf]
              | false =>
                rw [hip] at g1
                clear hip
                obtain ⟨-, -, -, -, -, e6⟩ := RD.out _ HKP.out.1 p hpl
                obtain ⟨r5, r6⟩ := RG.out p hpl
                obtain ⟨gp, hgp⟩ : ∃ gp, gp = g p := ⟨_, rfl⟩
                rw [← hgp] at e6 r5 r6
                have HGP : Hid (gp = g p) := hgp
                clear hgp
                by_cases k1 : gp < 0
                · have d3 : decide (gp < 0) = true := decide_eq_true k1
                  go_wp2
                  go_ret3
                  exact ⟨false, 0, _, rfl, (by have h := HKP.out.1; rw [HNB.out] at h; exact h.below), fun h => by cases h⟩
                have d3 : decide (gp < 0) = false := decide_eq_false k1
                by_cases k2 : (k : Int) ≤ gp
                · have d4 : decide ((k : Int) ≤ gp) = true := decide_eq_true k2
                  go_wp2
                  go_ret3
                  exact ⟨false, 0, _, rfl, (by have h := HKP.out.1; rw [HNB.out] at h; exact h.below), fun h => by cases h⟩
                have d4 : decide ((k : Int) ≤ gp) = false := decide_eq_false k2
                go_wp2
                go_roundw
                case rel => exact ⟨2, by omega, rfl, HKP.out, ⟨fun _ => HED.out.1 (by omega), fun _ => by rw [← HZE.out]; exact .inr ⟨by omega, by omega, .inr (by rw [Int.toNat_natCast, ← HGP.out]; omega)⟩⟩⟩
                case measure => simp [intOf]
      have dt : decide ((u : Int) < (t : Int)) = false := decide_eq_false (by omega)
      have hut : u = t := by omega
      subst hut
      go_wp2
      go_ret3
      exact ⟨true, (k : Int), .slice (some ⟨nb, 0, none⟩) n4 n4, rfl, (by have h := HKP.out.1; rw [HNB.out] at h; exact h.below), fun _ => ⟨rfl, by rw [HNB.out], HR2.out HNC.out HLT.out HGG.out, im, by rw [← HNB.out]; exact HKP.out.2, HIM.out⟩⟩

end Go.Proofs.Qxb6604061a
