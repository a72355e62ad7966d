import Derived.Test.Qxb6600609aSize
import Derived.Test.Qxb6600609aBytes
namespace Go.Proofs.Qxb6600609a
open Go.RowKit Go.SMaps

/-- A tree in memory with its root at b. -/
def Tree (B : Nat) (w : World) (S : State) (b : Nat) : Prop := ∃ ad mm, Rep B w S ad mm ∧ ad [] = b

def BringT (B b : Nat) (S : State) (w : World) (e : Ending) (w' : World) : Prop := e = .returned (.tuple #[]) ∧ Below B w w' ∧ Tree B w' S b

theorem bringT (B b : Nat) (S : State) (P : List ByteArray) (a : Option Addr) (c : Nat) (w : World) (hlen : P.length ≤ 65536) (h : Tree B w S b) (hr : SRow B w a P.length (fun i => P.getD i ByteArray.empty)) :
    Calls Try.prog 11 #[.pointer (some ⟨b, 0, none⟩), .slice a P.length c] w (BringT B b (bi P S []) w) := by
  obtain ⟨ad, mm, h1, rfl⟩ := h
  exact (zzbring B S ad mm P a c w (by omega) h1 hr).mono fun e w' ⟨q1, q2, q3⟩ => ⟨q1, q2, q3⟩

theorem sameT (B B' B0 b b' : Nat) (S : State) (P : List ByteArray) (a : Option Addr) (c : Nat) (w : World) (hlen : P.length ≤ 65536) (h : Tree B w S b) (h' : Tree B' w S b') (hr : SRow B0 w a P.length (fun i => P.getD i ByteArray.empty)) :
    Calls Try.prog 15 #[.pointer (some ⟨b, 0, none⟩), .pointer (some ⟨b', 0, none⟩), .slice a P.length c] w fun e w' => e = .returned (.bool true) ∧ w' = w := by
  obtain ⟨ad, mm, h1, rfl⟩ := h
  obtain ⟨ad', mm', h1', rfl⟩ := h'
  exact same_any B B' B0 S ad ad' mm mm' P a c w (by omega) h1 h1' hr

theorem Tree.below {B b : Nat} {w w' : World} {S : State} (h : Tree B w S b) (hb : Below w.heap.size w w') : Tree B w' S b := by
  obtain ⟨ad, mm, h1, h2⟩ := h
  exact ⟨ad, mm, h1.below hb, h2⟩

theorem bis_take {Ps : List (List ByteArray)} {k : Nat} (S : State) (hk : k < Ps.length) : bis S (Ps.take (k + 1)) = bi (Ps.getD k []) (bis S (Ps.take k)) [] := by
  have : Ps[k] = Ps.getD k [] := by simp [hk]
  rw [List.take_succ_eq_append_getElem hk, bis_append, this]
  rfl

theorem bis_drop {Ps : List (List ByteArray)} {k : Nat} (S : State) (hk : k < Ps.length) : bis S (Ps.drop k).reverse = bi (Ps.getD k []) (bis S (Ps.drop (k + 1)).reverse) [] := by
  have : Ps[k] = Ps.getD k [] := by simp [hk]
  rw [List.drop_eq_getElem_cons hk, List.reverse_cons, bis_append, this]
  rfl

def LawPost (w : World) (e : Ending) (w' : World) : Prop := e = .returned (.bool true) ∧ Below w.heap.size w w'

set_option maxRecDepth 10000 in
set_option maxHeartbeats 4000000 in
theorem law (r : Bool) (a1 a2 a3 : Option Addr) (c1 c2 c3 : Nat) (L : List ByteArray) (Ps Qs : List (List ByteArray)) (w : World) (hn : L.length ≤ maxLen) (hp : Ps.length ≤ maxLen) (hq : Qs.length ≤ maxLen)
    (hr : SRow w.heap.size w a1 L.length (fun i => L.getD i ByteArray.empty)) (hrp : PRow w.heap.size w a2 Ps) (hrq : PRow w.heap.size w a3 Qs) (hnil1 : a1 = none → L.length = 0) (hnil2 : a2 = none → Ps.length = 0) (hnil3 : a3 = none → Qs.length = 0) :
    Calls Try.prog 4 #[.bool r, .slice a1 L.length c1, .slice a2 Ps.length c2, .slice a3 Qs.length c3] w (LawPost w) := by
  have HR : Hid (SRow w.heap.size w a1 L.length (fun i => L.getD i ByteArray.empty)) := hr
  have HP : Hid (PRow w.heap.size w a2 Ps) := hrp
  have HQ : Hid (PRow w.heap.size w a3 Qs) := hrq
  have HNN : Hid (L.length ≤ maxLen ∧ Ps.length ≤ maxLen ∧ Qs.length ≤ maxLen) := ⟨hn, hp, hq⟩
  have HNIL : Hid ((a1 = none → L.length = 0) ∧ (a2 = none → Ps.length = 0) ∧ (a3 = none → Qs.length = 0)) := ⟨hnil1, hnil2, hnil3⟩
  clear hr hrp hrq hnil1 hnil2 hnil3
  unfold maxLen at hn hp hq
  go_enter Try.func4, Try.ntmps4
  go_wp2_with fail
  refine (bytes14 w.heap.size r a1 a2 a3 L.length c1 c2 c3 _ Ps Qs w HNN.out.1 HNN.out.2.1 HNN.out.2.2 HR.out HP.out HQ.out).mono ?_
  rintro e w' ⟨x, rfl, rfl⟩
  cases x with
  | false =>
    go_wp2
    go_ret
    exact ⟨rfl, Below.refl _ _⟩
  | true =>
  go_wp2_with fail
  refine (sizeN w'.heap.size a1 L.length c1 _ w' HNN.out.1 HR.out).mono ?_
  rintro e w1 ⟨x1, rfl, rfl, h10, h11, _⟩
  go_wp2_with fail
  refine (sizeP w1.heap.size a2 c2 Ps w1 HNN.out.2.1 HP.out).mono ?_
  rintro e w2 ⟨x2, rfl, rfl, h20, h21, g2⟩
  have G2 : Hid (x2 ≤ 1048576 → ∀ i, (Ps.getD i []).length ≤ 65536) := g2
  clear g2
  go_wp2_with fail
  refine (sizeP w2.heap.size a3 c3 Qs w2 HNN.out.2.2 HQ.out).mono ?_
  rintro e w3 ⟨x3, rfl, rfl, h30, h31, g3⟩
  have G3 : Hid (x3 ≤ 1048576 → ∀ i, (Qs.getD i []).length ≤ 65536) := g3
  clear g3
  by_cases hx : 1048576 < x1 + x2 + x3
  · have dx : decide ((1048576 : Int) < x1 + x2 + x3) = true := decide_eq_true hx
    go_wp2
    go_ret
    exact ⟨rfl, Below.refl _ _⟩
  have dx : decide ((1048576 : Int) < x1 + x2 + x3) = false := decide_eq_false hx
  have HPL : Hid (∀ i, (Ps.getD i []).length ≤ 65536) := G2.out (by omega)
  have HQL : Hid (∀ i, (Qs.getD i []).length ≤ 65536) := G3.out (by omega)
  clear hx
  by_cases b1 : 4096 < L.length
  · go_wp2
    go_ret
    exact ⟨rfl, Below.refl _ _⟩
  have d1 : decide ((4096 : Int) < (L.length : Int)) = false := decide_eq_false (by omega)
  by_cases b2 : 4096 < Ps.length
  · go_wp2
    go_ret
    exact ⟨rfl, Below.refl _ _⟩
  have d2 : decide ((4096 : Int) < (Ps.length : Int)) = false := decide_eq_false (by omega)
  by_cases b3 : 4096 < Qs.length
  · go_wp2
    go_ret
    exact ⟨rfl, Below.refl _ _⟩
  have d3 : decide ((4096 : Int) < (Qs.length : Int)) = false := decide_eq_false (by omega)
  have k1 : L.length ≤ 4096 := by omega
  have k2 : Ps.length ≤ 4096 := by omega
  have k3 : Qs.length ≤ 4096 := by omega
  clear b1 b2 b3 hn hp hq G2 G3
  go_wp2_with fail
  clear dx d1 d2 d3 h10 h11 h20 h21 h30 h31
  refine (copyS a1 L.length c1 w3.heap.size _ w3 (by omega) (Nat.le_refl _) HR.out HNIL.out.1).mono ?_
  rintro e w4 ⟨e1, rfl, _, hs4, hb4⟩
  have HR4 : Hid (SRow w4.heap.size w4 e1 L.length (fun i => L.getD i ByteArray.empty)) := fun i hi => by
    obtain ⟨b, off, _, q2, q3, q4⟩ := hs4 i hi
    exact ⟨b, off, q2, q3, q4⟩
  have HP4 : Hid (PRow w3.heap.size w4 a2 Ps) := HP.out.below hb4
  have HQ4 : Hid (PRow w3.heap.size w4 a3 Qs) := HQ.out.below hb4
  have HB4 : Hid (Below w3.heap.size w3 w4) := hb4
  clear hs4 hb4 HR HP HQ
  go_wp2_with fail
  refine (copyP a2 c2 w3.heap.size Ps w4 (by omega) (fun i => Nat.le_trans (HPL.out i) (by omega)) HB4.out.size HP4.out HNIL.out.2.1).mono ?_
  rintro e w5 ⟨e2, rfl, hp5, hb5⟩
  have HP5 : Hid (PRow w5.heap.size w5 e2 Ps) := hp5
  have HR5 : Hid (SRow w5.heap.size w5 e1 L.length (fun i => L.getD i ByteArray.empty)) := (HR4.out.below hb5).mono hb5.size
  have HQ5 : Hid (PRow w3.heap.size w5 a3 Qs) := HQ4.out.below (hb5.mono HB4.out.size)
  have HB5 : Hid (Below w3.heap.size w3 w5) := HB4.out.trans (hb5.mono HB4.out.size)
  clear hp5 hb5 HR4 HP4 HQ4 HB4
  clear w4
  go_wp2_with fail
  refine (copyP a3 c3 w3.heap.size Qs w5 (by omega) (fun i => Nat.le_trans (HQL.out i) (by omega)) HB5.out.size HQ5.out HNIL.out.2.2).mono ?_
  rintro e w6 ⟨e3, rfl, hq6, hb6⟩
  have HQ6 : Hid (PRow w6.heap.size w6 e3 Qs) := hq6
  have HP6 : Hid (PRow w6.heap.size w6 e2 Ps) := (HP5.out.below hb6).mono hb6.size
  have HR6 : Hid (SRow w6.heap.size w6 e1 L.length (fun i => L.getD i ByteArray.empty)) := (HR5.out.below hb6).mono hb6.size
  have HB6 : Hid (Below w3.heap.size w3 w6) := HB5.out.trans (hb6.mono HB5.out.size)
  clear hq6 hb6 HR5 HP5 HQ5 HB5 HNIL HNN
  clear w5
  go_wp2_with fail
  refine (build_any w6.heap.size r L e1 L.length w6 (by omega) (Nat.le_refl _) HR6.out).mono ?_
  rintro e w7 ⟨ba, rfl, hb7, ht7⟩
  have HT7 : Hid (Below w6.heap.size w6 w7 ∧ Tree w6.heap.size w7 (fin r L []) ba) := ⟨hb7, ht7⟩
  clear hb7 ht7
  obtain ⟨S0, hS0⟩ : ∃ S0, S0 = fin r L [] := ⟨_, rfl⟩
  rw [← hS0] at HT7
  have HS0 : Hid (S0 = fin r L []) := hS0
  clear hS0
  go_wp2
  go_loopw [10] (fun i wr => ∃ k : Nat, k ≤ Ps.length ∧ i = .int .i64 k ∧ Hid (Below w6.heap.size w6 wr ∧ Tree w6.heap.size wr (bis S0 (Ps.take k)) ba)) (fun i _ => Ps.length - (intOf i).toNat)
  case atStart => exact ⟨0, Nat.zero_le _, rfl, HT7.out.1, by rw [List.take_zero]; exact HT7.out.2⟩
  case round =>
    clear HT7
    obtain ⟨k, hk, rfl, hI⟩ := hrel
    by_cases hlt : k < Ps.length
    · have dk : decide ((k : Int) < (Ps.length : Int)) = true := decide_eq_true (by omega)
      obtain ⟨b, off, ai, ci, hb, ea, hc, h1, h2, h3⟩ := (HP6.out.below hI.out.1) k hlt
      subst ea
      obtain ⟨P, hP⟩ : ∃ P, P = Ps.getD k [] := ⟨_, rfl⟩
      have hl : P.length ≤ 65536 := by rw [hP]; exact HPL.out k
      rw [← hP] at hc h3
      have HS : Hid (SRow w6.heap.size wr ai P.length (fun j => P.getD j ByteArray.empty)) := h3
      have HE : Hid (bis S0 (Ps.take (k + 1)) = bi P (bis S0 (Ps.take k)) []) := by rw [hP]; exact bis_take S0 hlt
      clear h1 h2 h3 hP
      go_wp2_with fail
      clear dk
      refine (bringT w6.heap.size ba (bis S0 (Ps.take k)) P ai ci _ hl hI.out.2 HS.out).mono ?_
      rintro e wa ⟨rfl, q1, q2⟩
      have HF : Hid (Below w6.heap.size w6 wa ∧ Tree w6.heap.size wa (bis S0 (Ps.take (k + 1))) ba) := ⟨hI.out.1.trans q1, by rw [HE.out]; exact q2⟩
      clear q1 q2
      go_wp2
      go_roundw
      case rel => exact ⟨k + 1, by omega, by go_num, HF.out⟩
      case measure => simp [intOf]; omega
    · have dk : decide ((k : Int) < (Ps.length : Int)) = false := decide_eq_false (by omega)
      have HA : Hid (Below w6.heap.size w6 wr ∧ Tree w6.heap.size wr (bis S0 Ps) ba) := by
        have := hI.out
        rw [List.take_of_length_le (by omega)] at this
        exact this
      clear hI
      obtain ⟨wA, hwA⟩ : ∃ wA, wA = wr := ⟨_, rfl⟩
      subst hwA
      go_wp2_with fail
      clear dk
      refine (build_any wA.heap.size r L e1 L.length wA (by omega) (Nat.le_refl _) ((HR6.out.below HA.out.1).mono HA.out.1.size)).mono ?_
      rintro e w8 ⟨bb, rfl, hb8, ht8⟩
      have HT8 : Hid (Below wA.heap.size wA w8 ∧ Tree wA.heap.size w8 S0 bb) := ⟨hb8, by rw [HS0.out]; exact ht8⟩
      have HPr : Hid (PRow wA.heap.size wA e2 Ps) := (HP6.out.below HA.out.1).mono HA.out.1.size
      have HQr : Hid (PRow wA.heap.size wA e3 Qs) := (HQ6.out.below HA.out.1).mono HA.out.1.size
      clear hb8 ht8
      go_wp2
      go_loopw [12] (fun i w9 => ∃ k : Nat, k ≤ Ps.length ∧ i = .int .i64 ((k : Int) - 1) ∧ Hid (Below wA.heap.size wA w9 ∧ Tree wA.heap.size w9 (bis S0 (Ps.drop k).reverse) bb)) (fun i _ => (intOf i + 1).toNat)
      case atStart => exact ⟨Ps.length, Nat.le_refl _, rfl, HT8.out.1, by rw [List.drop_length]; exact HT8.out.2⟩
      case round =>
        clear HT8
        obtain ⟨k, hk, rfl, hI⟩ := hrel
        by_cases hk0 : k = 0
        · subst hk0
          have HT9 : Hid (Below wA.heap.size wA wr ∧ Tree wA.heap.size wr (bis S0 Ps.reverse) bb) := by
            have := hI.out
            rw [List.drop_zero] at this
            exact this
          clear hI
          have e0 : ((0 : Nat) : Int) - 1 = -1 := rfl
          rw [e0]
          clear e0
          go_wp2
          go_loopw [13] (fun i wr => ∃ k : Nat, k ≤ Ps.length ∧ i = .int .i64 k ∧ Hid (Below wA.heap.size wA wr ∧ Tree wA.heap.size wr (bis (bis S0 Ps.reverse) (Ps.take k)) bb)) (fun i _ => Ps.length - (intOf i).toNat)
          case atStart => exact ⟨0, Nat.zero_le _, rfl, HT9.out.1, by rw [List.take_zero]; exact HT9.out.2⟩
          case round =>
            clear HT9
            obtain ⟨k, hk, rfl, hI⟩ := hrel
            by_cases hlt : k < Ps.length
            · have dk : decide ((k : Int) < (Ps.length : Int)) = true := decide_eq_true (by omega)
              obtain ⟨b, off, ai, ci, hb, ea, hc, h1, h2, h3⟩ := (HPr.out.below hI.out.1) k hlt
              subst ea
              obtain ⟨P, hP⟩ : ∃ P, P = Ps.getD k [] := ⟨_, rfl⟩
              have hl : P.length ≤ 65536 := by rw [hP]; exact HPL.out k
              rw [← hP] at hc h3
              have HS : Hid (SRow wA.heap.size wr ai P.length (fun j => P.getD j ByteArray.empty)) := h3
              have HE : Hid (bis (bis S0 Ps.reverse) (Ps.take (k + 1)) = bi P (bis (bis S0 Ps.reverse) (Ps.take k)) []) := by rw [hP]; exact bis_take _ hlt
              clear h1 h2 h3 hP
              go_wp2_with fail
              clear dk
              refine (bringT wA.heap.size bb (bis (bis S0 Ps.reverse) (Ps.take k)) P ai ci _ hl hI.out.2 HS.out).mono ?_
              rintro e wa ⟨rfl, q1, q2⟩
              have HF : Hid (Below wA.heap.size wA wa ∧ Tree wA.heap.size wa (bis (bis S0 Ps.reverse) (Ps.take (k + 1))) bb) := ⟨hI.out.1.trans q1, by rw [HE.out]; exact q2⟩
              clear q1 q2
              go_wp2
              go_roundw
              case rel => exact ⟨k + 1, by omega, by go_num, HF.out⟩
              case measure => simp [intOf]; omega
            · have dk : decide ((k : Int) < (Ps.length : Int)) = false := decide_eq_false (by omega)
              have HA2 : Hid (Tree w6.heap.size wr (bis S0 Ps) ba) := HA.out.2.below hI.out.1
              have HB2 : Hid (Tree wA.heap.size wr (bis S0 Ps) bb) := by
                have := hI.out.2
                rw [List.take_of_length_le (by omega), HS0.out, ← order_free, ← HS0.out] at this
                exact this
              have HQ2 : Hid (PRow wA.heap.size wr e3 Qs) := HQr.out.below hI.out.1
              have HZ : Hid (Below w3.heap.size w3 wr) := by
                have g1 : Below w3.heap.size w3 wA := HB6.out.trans (HA.out.1.mono HB6.out.size)
                exact g1.trans (hI.out.1.mono g1.size)
              clear hI HPr HQr HA HP6 HQ6 HR6 HB6
              go_wp2
              clear dk
              go_loop [14] (fun i => ∃ k : Nat, k ≤ Qs.length ∧ i = .int .i64 k) (fun i => Qs.length - (intOf i).toNat)
              case atStart => exact ⟨0, Nat.zero_le _, rfl⟩
              case round =>
                obtain ⟨k, hk, rfl⟩ := hrel
                by_cases hlt : k < Qs.length
                · have dk : decide ((k : Int) < (Qs.length : Int)) = true := decide_eq_true (by omega)
                  obtain ⟨b, off, ai, ci, hb, ea, hc, h1, h2, h3⟩ := HQ2.out k hlt
                  subst ea
                  obtain ⟨P, hP⟩ : ∃ P, P = Qs.getD k [] := ⟨_, rfl⟩
                  have hl : P.length ≤ 65536 := by rw [hP]; exact HQL.out k
                  rw [← hP] at hc h3
                  have HS : Hid (SRow wA.heap.size wr ai P.length (fun j => P.getD j ByteArray.empty)) := h3
                  clear h1 h2 h3 hP
                  go_wp2_with fail
                  clear dk
                  refine (sameT w6.heap.size wA.heap.size wA.heap.size ba bb _ P ai ci _ hl HA2.out HB2.out HS.out).mono ?_
                  rintro e wa ⟨rfl, rfl⟩
                  go_wp2
                  go_round
                  case rel => exact ⟨k + 1, by omega, by go_num⟩
                  case measure => simp [intOf]; omega
                · have dk : decide ((k : Int) < (Qs.length : Int)) = false := decide_eq_false (by omega)
                  go_wp2
                  go_ret
                  exact ⟨rfl, HZ.out⟩
        · obtain ⟨j, rfl⟩ : ∃ j, k = j + 1 := ⟨k - 1, by omega⟩
          have ej : ((j + 1 : Nat) : Int) - 1 = (j : Int) := by omega
          rw [ej]
          have hlt : j < Ps.length := by omega
          have HI : Hid (Below wA.heap.size wA wr ∧ Tree wA.heap.size wr (bis S0 (Ps.drop (j + 1)).reverse) bb) := hI
          clear ej hk0 hk hI
          have dk : decide ((0 : Int) ≤ (j : Int)) = true := decide_eq_true (by omega)
          obtain ⟨b, off, ai, ci, hb, ea, hc, h1, h2, h3⟩ := (HPr.out.below HI.out.1) j hlt
          subst ea
          obtain ⟨P, hP⟩ : ∃ P, P = Ps.getD j [] := ⟨_, rfl⟩
          have hl : P.length ≤ 65536 := by rw [hP]; exact HPL.out j
          rw [← hP] at hc h3
          have HS : Hid (SRow wA.heap.size wr ai P.length (fun j => P.getD j ByteArray.empty)) := h3
          have HE : Hid (bis S0 (Ps.drop j).reverse = bi P (bis S0 (Ps.drop (j + 1)).reverse) []) := by rw [hP]; exact bis_drop _ hlt
          clear h1 h2 h3 hP
          go_wp2_with fail
          clear dk
          refine (bringT wA.heap.size bb (bis S0 (Ps.drop (j + 1)).reverse) P ai ci _ hl HI.out.2 HS.out).mono ?_
          rintro e wa ⟨rfl, q1, q2⟩
          have HF : Hid (Below wA.heap.size wA wa ∧ Tree wA.heap.size wa (bis S0 (Ps.drop j).reverse) bb) := ⟨HI.out.1.trans q1, by rw [HE.out]; exact q2⟩
          clear q1 q2
          go_wp2
          go_roundw
          case rel => exact ⟨j, by omega, by go_num, HF.out⟩
          case measure => simp [intOf]

end Go.Proofs.Qxb6600609a
