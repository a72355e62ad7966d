import Derived.Test.Qxb6600609aSel
namespace Go.Proofs.Qxb6600609a
open Go.RowKit Go.SMaps

/-- A row of n strings below block B that is read. -/
def SRow (B : Nat) (w : World) (a : Option Addr) (n : Nat) (z : Nat → ByteArray) : Prop :=
  ∀ i, i < n → ∃ b off, b < B ∧ a = some ⟨b, off, none⟩ ∧ w.cell? ⟨b, off + i, none⟩ = some (.string (z i))

theorem SRow.below {B : Nat} {w w' : World} {a : Option Addr} {n : Nat} {z : Nat → ByteArray} (h : SRow B w a n z) (hb : Below B w w') : SRow B w' a n z := by
  intro i hi
  obtain ⟨b, off, hlt, ha, hc⟩ := h i hi
  exact ⟨b, off, hlt, ha, by rw [hb.cell (p := ⟨b, off + i, none⟩) hlt]; exact hc⟩

theorem SRow.mono {B B' : Nat} {w : World} {a : Option Addr} {n : Nat} {z : Nat → ByteArray} (h : SRow B w a n z) (hB : B ≤ B') : SRow B' w a n z := by
  intro i hi
  obtain ⟨b, off, hlt, ha, hc⟩ := h i hi
  exact ⟨b, off, by omega, ha, hc⟩

theorem Rep.look {B : Nat} {w : World} {S : State} {ad : List ByteArray → Nat} {mm : List ByteArray → Option Nat} (h : Rep B w S ad mm) {p : List ByteArray} (hp : IsN S p) (x : ByteArray) :
    (Instr.lookup 44 (.map (mm p)) (.string x) true).run Try.prog w = .ok (.tuple #[(chv S ad p x).getD (.pointer none), .bool (chv S ad p x).isSome]) w := by
  rcases hm : mm p with _ | b
  · have h1 := look_nil (P := Try.prog) (w := w) (t := 44) Try.underlying44 Try.underlying9 (zero29 w) x true
    have h2 : chv S ad p x = none := by unfold chv; rw [h.nomap p hp hm x]
    rw [h2]
    simpa using h1
  · obtain ⟨n, hs⟩ := h.map p b hp hm
    have h1 := hs.look (P := Try.prog) (t := 44) Try.underlying44 Try.underlying9 (zero29 w) x true
    simpa using h1

theorem ptr29 : Try.prog.underlying 29 = some (.pointer (Try.prog.pointee 29)) := by kernel_rfl

theorem eql29 (p : Option Addr) (w : World) : (binOp .eql 29 (.pointer p) (.pointer none)).run Try.prog w = .ok (.bool p.isNone) w := by
  have := run_eql_pointer_nil (P := Try.prog) w 29 p ptr29
  cases p <;> simpa using this

def BringPost (B : Nat) (S : State) (a0 : Nat) (w : World) (e : Ending) (w' : World) : Prop :=
  e = .returned (.tuple #[]) ∧ Below B w w' ∧ ∃ ad mm, Rep B w' S ad mm ∧ ad [] = a0

theorem bi_stop {x : ByteArray} {t : List ByteArray} {S : State} {pre : List ByteArray} (h1 : S (pre ++ [x]) = none) (h2 : S pre = some (some true)) : bi (x :: t) S pre = S := by
  rw [bi, if_pos ⟨h1, h2⟩]
theorem bi_last {x : ByteArray} {S : State} {pre : List ByteArray} (h : ¬ (S (pre ++ [x]) = none ∧ S pre = some (some true))) : bi [x] S pre = graft S (pre ++ [x]) true := by
  rw [bi, if_neg h]
  rfl
theorem bi_next {x : ByteArray} {t : List ByteArray} {S : State} {pre : List ByteArray} (h : ¬ (S (pre ++ [x]) = none ∧ S pre = some (some true))) (ht : t ≠ []) : bi (x :: t) S pre = bi t (mk S (pre ++ [x])) (pre ++ [x]) := by
  rw [bi, if_neg h]
  cases t with
  | nil => exact absurd rfl ht
  | cons y t => simp

/-- 'name' at a selection of the tree, a fresh selection laid just before. -/
theorem name_fresh {B : Nat} {w : World} {S : State} {ad : List ByteArray → Nat} {mm : List ByteArray → Option Nat} (h : Rep B w S ad mm) {p : List ByteArray} {r : Bool} (hp : S p = some (some r)) (x : ByteArray) (r' : Bool) :
    Calls Try.prog 24 #[.pointer (some ⟨ad p, 0, none⟩), .string x, .pointer (some ⟨w.heap.size, 0, none⟩)] (w.alloc (.cells #[.bool r', .map none] 46)) fun e w' =>
      e = .returned (.tuple #[]) ∧ Below B w w' ∧ ∃ mm', Rep B w' (graft S (p ++ [x]) r') (fun q => if q = p ++ [x] then w.heap.size else ad q) mm' := by
  have hblk := h.node p r hp
  refine (name_any (ad p) r (mm p) (chv S ad p) x (.pointer (some ⟨w.heap.size, 0, none⟩)) (w.alloc (.cells #[.bool r', .map none] 46)) ?_ ?_ ?_).mono ?_
  · rw [Below.heap_alloc _ _ _ (lt_of_block hblk)]; exact hblk
  · intro bm hm
    obtain ⟨n, hs⟩ := h.map p bm ⟨r, hp⟩ hm
    exact ⟨n, hs.of_block (Below.heap_alloc _ _ _ hs.lt)⟩
  · intro hm s
    unfold chv
    rw [h.nomap p ⟨r, hp⟩ hm s]
  · rintro e w' ⟨rfl, bm, hn⟩
    obtain ⟨h1, h2⟩ := h.graft hp rfl (Nat.le_trans (h.ge p ⟨r, hp⟩) (Nat.le_of_lt (lt_of_block hblk))) hn
    exact ⟨rfl, h2, _, h1⟩

set_option maxRecDepth 10000 in
set_option maxHeartbeats 2000000 in
theorem bring_any (B : Nat) (S : State) (ad : List ByteArray → Nat) (mm : List ByteArray → Option Nat) (P : List ByteArray) (a : Option Addr) (c : Nat) (w : World) (hlen : P.length ≤ 70000) (h : Rep B w S ad mm)
    (hr : SRow B w a P.length (fun i => P.getD i ByteArray.empty)) :
    Calls Try.prog 18 #[.pointer (some ⟨ad [], 0, none⟩), .slice a P.length c] w (BringPost B (bi P S []) (ad []) w) := by
  obtain ⟨a0, ha0⟩ : ∃ a0, a0 = ad [] := ⟨_, rfl⟩
  obtain ⟨T, hT⟩ : ∃ T, T = bi P S [] := ⟨_, rfl⟩
  rw [← hT, ← ha0]
  have HT : Hid (T = bi P S []) := hT
  have HR : Hid (SRow B w a P.length (fun i => P.getD i ByteArray.empty)) := hr
  have H0 : Hid (Rep B w S ad mm ∧ ad [] = a0) := ⟨h, ha0.symm⟩
  have heqp := eql29
  clear hT h hr ha0
  go_enter Try.func18, Try.ntmps18
  go_wp2
  go_loopw [0, 10] (fun s i wr => ∃ (k : Nat) (Sk : State) (ad : List ByteArray → Nat) (mm : List ByteArray → Option Nat), k ≤ P.length ∧ i = .int .i64 k ∧ s = .pointer (some ⟨ad (P.take k), 0, none⟩) ∧ Rep B wr Sk ad mm ∧ IsN Sk (P.take k) ∧ Hid (ad [] = a0) ∧ Hid (bi (P.drop k) Sk (P.take k) = T) ∧ Below B w wr)
    (fun _ i _ => P.length - (intOf i).toNat)
  case atStart => exact ⟨0, S, ad, mm, Nat.zero_le _, rfl, by rw [List.take_zero, H0.out.2], H0.out.1, by rw [List.take_zero]; exact H0.out.1.root, H0.out.2, HT.out.symm, Below.refl _ _⟩
  case round =>
    clear H0
    obtain ⟨k, Sk, ad, mm, hk, rfl, rfl, hrep, hN, had, hbi, hbel⟩ := hrel
    by_cases hkn : k < P.length
    · obtain ⟨x, hx⟩ : ∃ x, x = P.getD k ByteArray.empty := ⟨_, rfl⟩
      obtain ⟨b, off, hb, ea, hc⟩ := (HR.out.below hbel) k hkn
      subst ea
      have hxk : P[k] = x := by rw [hx]; simp [List.getD, hkn]
      have etake : P.take (k + 1) = P.take k ++ [x] := by rw [List.take_succ_eq_append_getElem hkn, hxk]
      have edrop : P.drop k = x :: P.drop (k + 1) := by rw [List.drop_eq_getElem_cons hkn, hxk]
      simp only at hc
      rw [← hx] at hc
      clear hx hxk
      obtain ⟨pre, hpre⟩ : ∃ pre, pre = P.take k := ⟨_, rfl⟩
      rw [← hpre] at hN hbi etake ⊢
      rw [edrop] at hbi
      obtain ⟨r, hSr⟩ := hN
      have hblk := hrep.node pre r hSr
      obtain ⟨c0, c1, f1⟩ := sel_cells hblk
      have hlook := hrep.look ⟨r, hSr⟩ x
      have HE : Hid (P.take (k + 1) = pre ++ [x] ∧ Sk pre = some (some r)) := ⟨etake, hSr⟩
      have HK : Hid (Rep B wr Sk ad mm) := hrep
      have HBL : Hid (wr.heap[ad pre]? = some (.cells #[.bool r, .map (mm pre)] 46 (0, 0))) := hblk
      have HP : Hid (pre = P.take k) := hpre
      clear etake edrop hpre hSr hrep hblk
      rcases hcx : Sk (pre ++ [x]) with _ | _ | r2
      · have hcv : chv Sk ad pre x = none := by unfold chv; rw [hcx]
        rw [hcv] at hlook
        clear hcv
        have HX : Hid (Sk (pre ++ [x]) = none) := hcx
        clear hcx
        cases r with
        | true =>
          simp only [Option.getD_none, Option.isSome_none] at hlook
          go_wp2
          go_end0
          refine ⟨rfl, hbel, ad, mm, ?_, had.out⟩
          rw [← hbi.out, bi_stop HX.out HE.out.2]
          exact HK.out
        | false =>
          simp only [Option.getD_none, Option.isSome_none] at hlook
          have HNS : Hid (¬ (Sk (pre ++ [x]) = none ∧ Sk pre = some (some true))) := fun h => by rw [HE.out.2] at h; cases h.2
          have HNN : Hid (¬ IsN Sk (pre ++ [x])) := fun ⟨u, hu⟩ => by rw [HX.out] at hu; cases hu
          have hname := name_fresh HK.out HE.out.2 x
          have HNM := (show Hid _ from hname)
          clear hname
          by_cases hlast : k + 1 = P.length
          · have hl' : ((k : Int) == (P.length : Int) - 1) = true := by simp only [beq_iff_eq]; omega
            go_wp2_with fail
            refine (HNM.out true).mono ?_
            rintro e w5 ⟨rfl, hb5, mm', hrep5⟩
            go_wp2
            go_end0
            refine ⟨rfl, hbel.trans hb5, (fun q => if q = pre ++ [x] then wr.heap.size else ad q), mm', ?_, ?_⟩
            · have e0 : P.drop (k + 1) = [] := by rw [hlast, List.drop_length]
              rw [← hbi.out, e0, bi_last HNS.out]
              exact hrep5
            · show (if [] = pre ++ [x] then wr.heap.size else ad []) = a0
              rw [if_neg (by simp)]
              exact had.out
          · have hl' : ((k : Int) == (P.length : Int) - 1) = false := by simp only [beq_eq_false_iff_ne]; omega
            have hl2 : k + 1 < P.length := by omega
            clear hlast
            go_wp2_with fail
            refine (HNM.out false).mono ?_
            rintro e w5 ⟨rfl, hb5, mm', hrep5⟩
            go_wp2
            go_roundw
            case rel =>
              have e0 : P.drop (k + 1) ≠ [] := fun e => by have := congrArg List.length e; simp at this; omega
              refine ⟨k + 1, graft Sk (pre ++ [x]) false, (fun q => if q = pre ++ [x] then wr.heap.size else ad q), mm', by omega, by go_num, ?_, hrep5, ?_, ?_, ?_, hbel.trans hb5⟩
              · rw [HE.out.1]
                simp
              · rw [HE.out.1]
                exact ⟨false, by unfold graft; rw [if_pos (pfx_refl _), if_pos rfl]⟩
              · show (if [] = pre ++ [x] then wr.heap.size else ad []) = a0
                rw [if_neg (by simp)]
                exact had.out
              · show bi (P.drop (k + 1)) (graft Sk (pre ++ [x]) false) (P.take (k + 1)) = T
                rw [← hbi.out, bi_next HNS.out e0, HK.out.mk_graft HNN.out, HE.out.1]
            case measure => simp [intOf]; omega
      · have hcv : chv Sk ad pre x = some (.pointer none) := by unfold chv; rw [hcx]
        rw [hcv] at hlook
        clear hcv
        have HX : Hid (Sk (pre ++ [x]) = some none) := hcx
        clear hcx
        · simp only [Option.getD_some, Option.isSome_some] at hlook
          have HNS : Hid (¬ (Sk (pre ++ [x]) = none ∧ Sk pre = some (some true))) := fun h => by rw [HX.out] at h; cases h.1
          have HNN : Hid (¬ IsN Sk (pre ++ [x])) := fun ⟨u, hu⟩ => by rw [HX.out] at hu; cases hu
          have hname := name_fresh HK.out HE.out.2 x
          have HNM := (show Hid _ from hname)
          clear hname
          by_cases hlast : k + 1 = P.length
          · have hl' : ((k : Int) == (P.length : Int) - 1) = true := by simp only [beq_iff_eq]; omega
            go_wp2_with fail
            refine (HNM.out true).mono ?_
            rintro e w5 ⟨rfl, hb5, mm', hrep5⟩
            go_wp2
            go_end0
            refine ⟨rfl, hbel.trans hb5, (fun q => if q = pre ++ [x] then wr.heap.size else ad q), mm', ?_, ?_⟩
            · have e0 : P.drop (k + 1) = [] := by rw [hlast, List.drop_length]
              rw [← hbi.out, e0, bi_last HNS.out]
              exact hrep5
            · show (if [] = pre ++ [x] then wr.heap.size else ad []) = a0
              rw [if_neg (by simp)]
              exact had.out
          · have hl' : ((k : Int) == (P.length : Int) - 1) = false := by simp only [beq_eq_false_iff_ne]; omega
            have hl2 : k + 1 < P.length := by omega
            clear hlast
            go_wp2_with fail
            refine (HNM.out false).mono ?_
            rintro e w5 ⟨rfl, hb5, mm', hrep5⟩
            go_wp2
            go_roundw
            case rel =>
              have e0 : P.drop (k + 1) ≠ [] := fun e => by have := congrArg List.length e; simp at this; omega
              refine ⟨k + 1, graft Sk (pre ++ [x]) false, (fun q => if q = pre ++ [x] then wr.heap.size else ad q), mm', by omega, by go_num, ?_, hrep5, ?_, ?_, ?_, hbel.trans hb5⟩
              · rw [HE.out.1]
                simp
              · rw [HE.out.1]
                exact ⟨false, by unfold graft; rw [if_pos (pfx_refl _), if_pos rfl]⟩
              · show (if [] = pre ++ [x] then wr.heap.size else ad []) = a0
                rw [if_neg (by simp)]
                exact had.out
              · show bi (P.drop (k + 1)) (graft Sk (pre ++ [x]) false) (P.take (k + 1)) = T
                rw [← hbi.out, bi_next HNS.out e0, HK.out.mk_graft HNN.out, HE.out.1]
            case measure => simp [intOf]; omega
      · have hcv : chv Sk ad pre x = some (.pointer (some ⟨ad (pre ++ [x]), 0, none⟩)) := by unfold chv; rw [hcx]
        rw [hcv] at hlook
        clear hcv
        have HX : Hid (Sk (pre ++ [x]) = some (some r2)) := hcx
        clear hcx
        simp only [Option.getD_some, Option.isSome_some] at hlook
        have HNS : Hid (¬ (Sk (pre ++ [x]) = none ∧ Sk pre = some (some true))) := fun h => by rw [HX.out] at h; cases h.1
        by_cases hlast : k + 1 = P.length
        · have hname := name_fresh HK.out HE.out.2 x
          have HNM := (show Hid _ from hname)
          clear hname
          have hl' : ((k : Int) == (P.length : Int) - 1) = true := by simp only [beq_iff_eq]; omega
          go_wp2_with fail
          refine (HNM.out true).mono ?_
          rintro e w5 ⟨rfl, hb5, mm', hrep5⟩
          go_wp2
          go_end0
          refine ⟨rfl, hbel.trans hb5, (fun q => if q = pre ++ [x] then wr.heap.size else ad q), mm', ?_, ?_⟩
          · have e0 : P.drop (k + 1) = [] := by rw [hlast, List.drop_length]
            rw [← hbi.out, e0, bi_last HNS.out]
            exact hrep5
          · show (if [] = pre ++ [x] then wr.heap.size else ad []) = a0
            rw [if_neg (by simp)]
            exact had.out
        · have hl' : ((k : Int) == (P.length : Int) - 1) = false := by simp only [beq_eq_false_iff_ne]; omega
          have hl2 : k + 1 < P.length := by omega
          clear hlast
          go_wp2
          go_roundw
          case rel =>
            have e0 : P.drop (k + 1) ≠ [] := fun e => by have := congrArg List.length e; simp at this; omega
            refine ⟨k + 1, Sk, ad, mm, by omega, by go_num, by rw [HE.out.1], HK.out, by rw [HE.out.1]; exact ⟨r2, HX.out⟩, had, ?_, hbel⟩
            show bi (P.drop (k + 1)) Sk (P.take (k + 1)) = T
            rw [← hbi.out, bi_next HNS.out e0, HK.out.mk_node ⟨r2, HX.out⟩, HE.out.1]
          case measure => simp [intOf]; omega
    · have hkk : k = P.length := by omega
      go_wp2
      go_end0
      refine ⟨rfl, hbel, ad, mm, ?_, had.out⟩
      have := hbi.out
      rw [hkk, List.drop_length] at this
      rw [← this]
      exact hrep

set_option maxHeartbeats 400000 in
theorem zzbring (B : Nat) (S : State) (ad : List ByteArray → Nat) (mm : List ByteArray → Option Nat) (P : List ByteArray) (a : Option Addr) (c : Nat) (w : World) (hlen : P.length ≤ 70000) (h : Rep B w S ad mm)
    (hr : SRow B w a P.length (fun i => P.getD i ByteArray.empty)) :
    Calls Try.prog 11 #[.pointer (some ⟨ad [], 0, none⟩), .slice a P.length c] w (BringPost B (bi P S []) (ad []) w) := by
  go_enter Try.func11, Try.ntmps11
  go_wp2_with fail
  refine (bring_any B S ad mm P a c w hlen h hr).mono ?_
  rintro e w' ⟨rfl, h1, h2⟩
  go_wp2
  go_end0
  exact ⟨rfl, h1, h2⟩

end Go.Proofs.Qxb6600609a
