import Derived.Test.Qxb6600609aBring
namespace Go.Proofs.Qxb6600609a
open Go.RowKit Go.SMaps

theorem chv_isSome (S : State) (ad ad' : List ByteArray → Nat) (p : List ByteArray) (x : ByteArray) : (chv S ad p x).isSome = (chv S ad' p x).isSome := by
  unfold chv
  rcases S (p ++ [x]) with _ | _ | r <;> rfl

theorem Rep.lens {B B' : Nat} {w : World} {S : State} {ad ad' : List ByteArray → Nat} {mm mm' : List ByteArray → Option Nat} (h : Rep B w S ad mm) (h' : Rep B' w S ad' mm') {p : List ByteArray} (hp : IsN S p) :
    ∃ n : Nat, (∀ ty, (Builtin.len_ #[44] ty #[.map (mm p)]).run Try.prog w = .ok (.int .i64 (n : Int)) w) ∧ (∀ ty, (Builtin.len_ #[44] ty #[.map (mm' p)]).run Try.prog w = .ok (.int .i64 (n : Int)) w) := by
  have hnil := fun ty => len_nil (P := Try.prog) (w := w) (t := 44) Try.underlying44 ty
  rcases hm : mm p with _ | b
  · have h0 : ∀ x, S (p ++ [x]) = none := h.nomap p hp hm
    rcases hm' : mm' p with _ | b'
    · exact ⟨0, hnil, hnil⟩
    · obtain ⟨n, hs⟩ := h'.map p b' hp hm'
      have : n = 0 := hs.len_zero (fun s => by unfold chv; rw [h0 s])
      subst this
      exact ⟨0, hnil, fun ty => hs.len Try.underlying44 ty⟩
  · obtain ⟨n, hs⟩ := h.map p b hp hm
    rcases hm' : mm' p with _ | b'
    · have h0 : ∀ x, S (p ++ [x]) = none := h'.nomap p hp hm'
      have : n = 0 := hs.len_zero (fun s => by unfold chv; rw [h0 s])
      subst this
      exact ⟨0, fun ty => hs.len Try.underlying44 ty, hnil⟩
    · obtain ⟨n', hs'⟩ := h'.map p b' hp hm'
      have : n = n' := hs.same_len hs' (fun s => chv_isSome S ad ad' p s)
      subst this
      exact ⟨n, fun ty => hs.len Try.underlying44 ty, fun ty => hs'.len Try.underlying44 ty⟩

set_option maxRecDepth 10000 in
set_option maxHeartbeats 2000000 in
theorem same_any (B B' B0 : Nat) (S : State) (ad ad' : List ByteArray → Nat) (mm mm' : List ByteArray → Option Nat) (P : List ByteArray) (a : Option Addr) (c : Nat) (w : World) (hlen : P.length ≤ 70000) (h : Rep B w S ad mm) (h' : Rep B' w S ad' mm')
    (hr : SRow B0 w a P.length (fun i => P.getD i ByteArray.empty)) :
    Calls Try.prog 15 #[.pointer (some ⟨ad [], 0, none⟩), .pointer (some ⟨ad' [], 0, none⟩), .slice a P.length c] w fun e w' => e = .returned (.bool true) ∧ w' = w := by
  have heqp := eql29
  have HR : Hid (SRow B0 w a P.length (fun i => P.getD i ByteArray.empty)) := hr
  have HA : Hid (Rep B w S ad mm) := h
  have HB : Hid (Rep B' w S ad' mm') := h'
  clear h h' hr
  go_enter Try.func15, Try.ntmps15
  go_wp2
  go_loop [0, 1, 7] (fun s s' i => ∃ k : Nat, k ≤ P.length ∧ i = .int .i64 k ∧ s = .pointer (some ⟨ad (P.take k), 0, none⟩) ∧ s' = .pointer (some ⟨ad' (P.take k), 0, none⟩) ∧ IsN S (P.take k)) (fun _ _ i => P.length + 1 - (intOf i).toNat)
  case atStart => exact ⟨0, Nat.zero_le _, rfl, by rw [List.take_zero], by rw [List.take_zero], by rw [List.take_zero]; exact HA.out.root⟩
  case round =>
    obtain ⟨k, hk, rfl, rfl, rfl, hN⟩ := hrel
    obtain ⟨pre, hpre⟩ : ∃ pre, pre = P.take k := ⟨_, rfl⟩
    rw [← hpre] at hN ⊢
    obtain ⟨n, l1, l2⟩ := HA.out.lens HB.out hN
    obtain ⟨r, hSr⟩ := hN
    have b1 := HA.out.node pre r hSr
    have b2 := HB.out.node pre r hSr
    have L1 : Hid (∀ ty, (Builtin.len_ #[44] ty #[.map (mm pre)]).run Try.prog w = .ok (.int .i64 (n : Int)) w) := l1
    have L2 : Hid (∀ ty, (Builtin.len_ #[44] ty #[.map (mm' pre)]).run Try.prog w = .ok (.int .i64 (n : Int)) w) := l2
    have HS : Hid (S pre = some (some r)) := hSr
    have HP : Hid (pre = P.take k) := hpre
    have G1 : Hid (w.heap[ad pre]? = some (.cells #[.bool r, .map (mm pre)] 46 (0, 0))) := b1
    have G2 : Hid (w.heap[ad' pre]? = some (.cells #[.bool r, .map (mm' pre)] 46 (0, 0))) := b2
    clear hSr b1 b2 l1 l2 hpre
    have hle : decide ((k : Int) ≤ (P.length : Int)) = true := decide_eq_true (by omega)
    go_wp2_with fail
    refine (rest_any (ad pre) r (mm pre) _ G1.out).mono ?_
    rintro e w1 ⟨rfl, rfl⟩
    go_wp2_with fail
    refine (rest_any (ad' pre) r (mm' pre) _ G2.out).mono ?_
    rintro e w2 ⟨rfl, rfl⟩
    go_wp2_with fail
    refine (count_any (ad pre) r (mm pre) n _ G1.out L1.out).mono ?_
    rintro e w3 ⟨rfl, rfl⟩
    go_wp2_with fail
    refine (count_any (ad' pre) r (mm' pre) n _ G2.out L2.out).mono ?_
    rintro e w4 ⟨rfl, rfl⟩
    by_cases hkn : k = P.length
    · have hkb : ((k : Int) == (P.length : Int)) = true := by simp only [beq_iff_eq]; omega
      clear hkn
      go_wp2
      go_ret
      exact ⟨rfl, rfl⟩
    · have hkb : ((k : Int) == (P.length : Int)) = false := by simp only [beq_eq_false_iff_ne]; omega
      have hlt : k < P.length := by omega
      clear hkn
      obtain ⟨x, hx⟩ : ∃ x, x = P.getD k ByteArray.empty := ⟨_, rfl⟩
      obtain ⟨b, off, hb, ea, hc⟩ := HR.out k hlt
      subst ea
      have hxk : P[k] = x := by rw [hx]; simp [List.getD, hlt]
      have etake : P.take (k + 1) = P.take k ++ [x] := by rw [List.take_succ_eq_append_getElem hlt, hxk]
      simp only at hc
      rw [← hx] at hc
      rw [← HP.out] at etake
      have HE : Hid (P.take (k + 1) = pre ++ [x]) := etake
      clear hx hxk etake
      have lk1 := HA.out.look ⟨r, HS.out⟩ x
      have lk2 := HB.out.look ⟨r, HS.out⟩ x
      rcases hcx : S (pre ++ [x]) with _ | _ | r2
      · have hcv : chv S ad pre x = none := by unfold chv; rw [hcx]
        have hcv' : chv S ad' pre x = none := by unfold chv; rw [hcx]
        rw [hcv] at lk1
        rw [hcv'] at lk2
        have K1 : Hid ((Instr.lookup 44 (.map (mm pre)) (.string x) true).run Try.prog w4 = .ok (.tuple #[(.pointer none), .bool false]) w4) := lk1
        have K2 : Hid ((Instr.lookup 44 (.map (mm' pre)) (.string x) true).run Try.prog w4 = .ok (.tuple #[(.pointer none), .bool false]) w4) := lk2
        clear hcv hcv' hcx lk1 lk2
        go_wp2_with fail
        refine (member_any (ad pre) r (mm pre) x _ _ _ G1.out K1.out).mono ?_
        rintro e w5 ⟨rfl, rfl⟩
        go_wp2_with fail
        refine (member_any (ad' pre) r (mm' pre) x _ _ _ G2.out K2.out).mono ?_
        rintro e w6 ⟨rfl, rfl⟩
        go_wp2
        go_ret
        exact ⟨rfl, rfl⟩
      · have hcv : chv S ad pre x = some (.pointer none) := by unfold chv; rw [hcx]
        have hcv' : chv S ad' pre x = some (.pointer none) := by unfold chv; rw [hcx]
        rw [hcv] at lk1
        rw [hcv'] at lk2
        have K1 : Hid ((Instr.lookup 44 (.map (mm pre)) (.string x) true).run Try.prog w4 = .ok (.tuple #[(.pointer none), .bool true]) w4) := lk1
        have K2 : Hid ((Instr.lookup 44 (.map (mm' pre)) (.string x) true).run Try.prog w4 = .ok (.tuple #[(.pointer none), .bool true]) w4) := lk2
        clear hcv hcv' hcx lk1 lk2
        go_wp2_with fail
        refine (member_any (ad pre) r (mm pre) x _ _ _ G1.out K1.out).mono ?_
        rintro e w5 ⟨rfl, rfl⟩
        go_wp2_with fail
        refine (member_any (ad' pre) r (mm' pre) x _ _ _ G2.out K2.out).mono ?_
        rintro e w6 ⟨rfl, rfl⟩
        go_wp2
        go_ret
        exact ⟨rfl, rfl⟩
      · have hcv : chv S ad pre x = some (.pointer (some ⟨ad (pre ++ [x]), 0, none⟩)) := by unfold chv; rw [hcx]
        have hcv' : chv S ad' pre x = some (.pointer (some ⟨ad' (pre ++ [x]), 0, none⟩)) := by unfold chv; rw [hcx]
        rw [hcv] at lk1
        rw [hcv'] at lk2
        have K1 : Hid ((Instr.lookup 44 (.map (mm pre)) (.string x) true).run Try.prog w4 = .ok (.tuple #[(.pointer (some ⟨ad (pre ++ [x]), 0, none⟩)), .bool true]) w4) := lk1
        have K2 : Hid ((Instr.lookup 44 (.map (mm' pre)) (.string x) true).run Try.prog w4 = .ok (.tuple #[(.pointer (some ⟨ad' (pre ++ [x]), 0, none⟩)), .bool true]) w4) := lk2
        have HX : Hid (S (pre ++ [x]) = some (some r2)) := hcx
        clear hcv hcv' hcx lk1 lk2
        go_wp2_with fail
        refine (member_any (ad pre) r (mm pre) x _ _ _ G1.out K1.out).mono ?_
        rintro e w5 ⟨rfl, rfl⟩
        go_wp2_with fail
        refine (member_any (ad' pre) r (mm' pre) x _ _ _ G2.out K2.out).mono ?_
        rintro e w6 ⟨rfl, rfl⟩
        go_wp2
        go_round
        case rel => exact ⟨k + 1, by omega, by go_num, by rw [HE.out], by rw [HE.out], by rw [HE.out]; exact ⟨r2, HX.out⟩⟩
        case measure => simp [intOf]; omega

end Go.Proofs.Qxb6600609a
