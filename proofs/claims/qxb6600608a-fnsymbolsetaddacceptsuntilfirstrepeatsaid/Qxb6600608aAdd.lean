import Derived.Test.Qxb6600608aSet
import Derived.WalkSmall
import Derived.Deep.Cut
import Derived.BigRegion
import Derived.Deep.MidRow
import Derived.Deep.WholeRow
namespace Go.Proofs.Qxb6600608a
open Go.RowKit Go.SMaps

/-- The world behind a name, with what is known of it. -/
theorem wp_gen {P : Program} {c : Code} {Q : Exit → Act → World → Prop} {a : Act} {w : World} (R : World → Prop) (h : R w) (k : ∀ w', R w' → Code.wp P c Q a w') : Code.wp P c Q a w := k w h

theorem run_makeMap_some {P : Program} {t k e : TypeId} (ht : P.underlying t = some (.map k e)) (n : Int) (w : World) : (Instr.makeMap t (some (.int .i64 n))).run P w = .ok (.map (some w.heap.size)) (w.alloc (.map #[] 0)) := by
  simp [Instr.makeMap, run_underlying ht, asInt, asIntOf, Result.andThen]

/-- A load whose run is known, at a plain region's list. -/
theorem wpList_load_run {P : Program} {ops : Array Oper} {rest : List Oper} {op : Oper} {a : Act} {w : World} {Q : Exit → Act → World → Prop} (hgd : op.guard = none) (ty : TypeId) (x : Operand) (ho : op.op = .load ty x) {v r : Value} (hx : a.eval x = v)
    (hrun : (Instr.loadAt ty v).run P w = .ok r w) (h : wpList P ops Q rest (a.put op.dst r) w) : wpList P ops Q (op :: rest) a w :=
  wpList_plain hgd fun _ hK => by
    unfold Oper.wp execOp
    simp only [ho, hx, Sem.run_bind, hrun, Result.andThen_ok]
    exact hK _ _ h

/-- A store whose run is known. -/
theorem wpList_store_run {P : Program} {ops : Array Oper} {rest : List Oper} {op : Oper} {a : Act} {w w' : World} {Q : Exit → Act → World → Prop} (hgd : op.guard = none) (ty : TypeId) (x y : Operand) (ho : op.op = .store ty x y) {v u : Value} (hx : a.eval x = v) (hy : a.eval y = u)
    (hd : op.dst = none) (hrun : (Instr.storeAt ty v u).run P w = .ok () w') (h : wpList P ops Q rest a w') : wpList P ops Q (op :: rest) a w :=
  wpList_plain hgd fun _ hK => by
    unfold Oper.wp execOp
    simp only [ho, hx, hy, Sem.run_bind, hrun, Result.andThen_ok]
    refine hK _ _ ?_
    rw [hd]
    exact h

/-- The set in memory from block B on. -/
structure SetAt (B : Nat) (w : World) (b bA n : Nat) (z : Nat → ByteArray) (l : Nat) (mp : Value) : Prop where
  set : SetIs w b bA n z l mp
  idx : Idx w z l mp
  hb : B ≤ b
  hA : B ≤ bA
  hm : ∀ bm, mp = .map (some bm) → B ≤ bm

def AddPost (B : Nat) (b bA n : Nat) (z : Nat → ByteArray) (l : Nat) (w : World) (e : Ending) (w' : World) : Prop :=
  e = .returned (.bool (!inB z l (z l))) ∧ Below B w w' ∧ ∃ mp, SetAt B w' b bA n z (if inB z l (z l) then l else l + 1) mp

section
variable {w : World} {b bA n l : Nat} {z : Nat → ByteArray} {mp : Value}

theorem SetIs.ne (h : SetIs w b bA n z l mp) : bA ≠ b := by
  intro e
  obtain ⟨c, hc, _⟩ := h.assets
  rw [e, h.blk] at hc
  simp at hc

theorem SetIs.drewN (h : SetIs w b bA n z l mp) (q : Nat) : SetIs (w.drewN q) b bA n z l mp := ⟨h.blk, h.assets, h.le⟩

/-- 's.n++'. -/
theorem SetIs.incr (h : SetIs w b bA n z l mp) (hl : l < n) {v : Value} (hv : v = .int .i64 ((l + 1 : Nat) : Int)) : SetIs (w.setCell ⟨b, 1, none⟩ v) b bA n z (l + 1) mp := by
  subst hv
  refine ⟨?_, h.assets.setOther h.ne _, hl⟩
  rw [heap_setCell_same w b 1 _ 68 _ h.blk]
  simp

/-- 's.index = m'. -/
theorem SetIs.index (h : SetIs w b bA n z l mp) (v : Value) : SetIs (w.setCell ⟨b, 2, none⟩ v) b bA n z l v := by
  refine ⟨?_, h.assets.setOther h.ne _, h.le⟩
  rw [heap_setCell_same w b 2 _ 68 _ h.blk]
  simp

theorem SetIs.of_blocks {w' : World} (h : SetIs w b bA n z l mp) (h1 : w'.heap[b]? = w.heap[b]?) (h2 : w'.heap[bA]? = w.heap[bA]?) : SetIs w' b bA n z l mp := ⟨h1.trans h.blk, h.assets.of_block h2, h.le⟩

theorem SMap.ne_cells {bm cnt : Nat} {m : ByteArray → Option Value} (h : SMap w bm m cnt) {c : Array Value} {t : TypeId} {fr : Nat × Nat} {g : Nat} (hg : w.heap[g]? = some (.cells c t fr)) : g ≠ bm := by
  intro e
  obtain ⟨es, clock, hb, _⟩ := h
  rw [← e, hg] at hb
  cases hb

theorem Try.size65 : (Try.prog.info? 65).map (·.size) = some 21 := by kernel_rfl

theorem asset_range {k : Nat} {cs : Array Value} (h : w.rowIs bA 65 (n * 21) (acf z n)) (hk : k < n) (hcs : cs = acells (z k)) : w.rangeAt bA (k * 21) cs.toList := by
  subst hcs
  intro j v hv
  have hj : j < 21 := by have := (List.getElem?_eq_some_iff.1 hv).1; simpa [acells] using this
  rw [h.cell (by omega)]
  unfold acf
  by_cases e : j = 0
  · subst e
    rw [if_pos (by omega), show (k * 21 + 0) / 21 = k by omega, if_pos hk]
    simpa [acells] using hv
  · rw [if_neg (by omega), show (k * 21 + j) % 21 = j by omega, ← hv]
    obtain ⟨i, rfl⟩ : ∃ i, j = i + 1 := ⟨j - 1, by omega⟩
    rcases i with _ | _ | _ | _ | _ | _ | _ | _ | _ | _ | _ | _ | _ | _ | _ | _ | _ | _ | _ | _ | i
    all_goals first | rfl | omega

theorem mIdx_step (s : ByteArray) : (if s = z l then some (Value.bool true) else mIdx z l s) = mIdx z (l + 1) s := by
  unfold mIdx
  simp only [inB]
  by_cases e : z l = s
  · simp [e]
  · have : s ≠ z l := fun h => e h.symm
    simp [e, this]

end

set_option maxRecDepth 10000 in
set_option maxHeartbeats 2000000 in
theorem add_any (B b bA n l : Nat) (z : Nat → ByteArray) (mp : Value) (w : World) (hn : n ≤ 100000) (hl : l < n) (h : SetAt B w b bA n z l mp) :
    Calls Try.prog 34 #[.pointer (some ⟨b, 0, none⟩)] w (AddPost B b bA n z l w) := by
  obtain ⟨c0, c1, c2, fr, cz⟩ := h.set.cells
  have cl := cz l hl
  have f1 := fr 1
  have f2 := fr 2
  have hmn := fun w r => run_neq_map_nil (P := Try.prog) w 66 9 4 r Try.underlying66
  have hll : (l : Int) < (n : Int) := by omega
  have HS : Hid (SetAt B w b bA n z l mp) := h
  clear h cz fr
  go_enter Try.func34, Try.ntmps34
  go_wp2
  go_quiet (fail)
  go_wp2_with fail
  refine (has_any b bA n l z mp (z l) (w.drewN nq) (HS.out.set.drewN nq) HS.out.idx).mono ?_
  rintro e w' ⟨rfl, rfl⟩
  cases hin : inB z l (z l) with
  | true =>
    have HI : Hid (inB z l (z l) = true) := hin
    clear hin
    go_wp2
    go_ret
    refine ⟨by rw [HI.out]; rfl, below_drewN (Below.refl _ _) _, mp, ?_⟩
    rw [if_pos HI.out]
    exact ⟨HS.out.set.drewN nq, HS.out.idx, HS.out.hb, HS.out.hA, HS.out.hm⟩
  | false =>
    have HI : Hid (inB z l (z l) = false) := hin
    clear hin
    have hle := HS.out.set.le
    rcases HS.out.idx with ⟨h8, rfl⟩ | ⟨h8, bm, cnt, rfl, hm⟩
    · by_cases h7 : l < 8
      · go_wp2
        go_ret
        refine ⟨by rw [HI.out]; rfl, (below_drewN (Below.refl _ _) _).setCell HS.out.hb _, .map none, ?_⟩
        rw [if_neg (by rw [HI.out]; simp)]
        exact ⟨(HS.out.set.drewN nq).incr hl (by go_num), .inl ⟨by omega, rfl⟩, HS.out.hb, HS.out.hA, fun bm e => by cases e⟩
      · have hl8 : l = 8 := by omega
        subst hl8
        have hmm := fun n w => run_makeMap_some (P := Try.prog) (t := 66) Try.underlying66 n w
        go_upto_region 8 with fail
        refine wp_gen (fun w1 => SetIs w1 b bA n z 9 (.map none) ∧ Below B w w1) ⟨(HS.out.set.drewN nq).incr hl (by go_num), (below_drewN (Below.refl _ _) _).setCell HS.out.hb _⟩ ?_
        intro w1 ⟨hs1, hb1⟩
        obtain ⟨d0, d1, d2, df, _⟩ := hs1.cells
        have df2 := df 2
        have hblt := lt_of_block hs1.blk
        have H1 : Hid (SetIs w1 b bA n z 9 (.map none) ∧ Below B w w1) := ⟨hs1, hb1⟩
        clear hs1 hb1 df c0 c1 c2 cl f1 f2
        go_upto_region 9 with fail
        obtain ⟨bm, hbm⟩ : ∃ bm, bm = w1.heap.size := ⟨_, rfl⟩
        rw [← hbm]
        refine wp_gen (fun w2 => SetIs w2 b bA n z 9 (.map (some bm)) ∧ SMap w2 bm (mIdx z 0) 0 ∧ Below B w w2) ?_ ?_
        · have hx := H1.out.1.index (.map (some bm))
          have hz : (w1.setCell ⟨b, 2, none⟩ (.map (some bm))).heap.size = bm := by rw [hbm]; simp [World.setCell]
          obtain ⟨cA, hcA, _⟩ := hx.assets
          refine ⟨hx.of_blocks (Below.heap_alloc _ _ _ (by rw [hz, hbm]; exact hblt)) (Below.heap_alloc _ _ _ (lt_of_block hcA)), ?_, (H1.out.2.setCell HS.out.hb _).alloc (by rw [hz, hbm]; exact Nat.le_trans HS.out.hb (Nat.le_of_lt hblt)) _⟩
          have := SMap.made (w1.setCell ⟨b, 2, none⟩ (.map (some bm)))
          rw [hz] at this
          exact this
        have hBm : B ≤ bm := by rw [hbm]; exact Nat.le_trans HS.out.hb (Nat.le_of_lt hblt)
        clear H1 d0 d1 d2 df2 hblt hmm hbm
        intro w1 ⟨hs1, hm1, hb1⟩
        obtain ⟨d0, d1, d2, _, _⟩ := hs1.cells
        have h9 : (9 : Int) ≤ (n : Int) := by omega
        have H1 : Hid (SetIs w1 b bA n z 9 (.map (some bm)) ∧ SMap w1 bm (mIdx z 0) 0 ∧ Below B w w1) := ⟨hs1, hm1, hb1⟩
        clear hs1 hm1 hb1
        go_quiet (fail)
        go_wp2
        go_loopw [63] (fun i wr => ∃ k cnt : Nat, k ≤ 9 ∧ i = .int .i64 k ∧ SetIs wr b bA n z 9 (.map (some bm)) ∧ SMap wr bm (mIdx z k) cnt ∧ Below B w wr) (fun i _ => 9 - (intOf i).toNat)
        case atStart => exact ⟨0, 0, by omega, rfl, H1.out.1.drewN _, H1.out.2.1, below_drewN H1.out.2.2 _⟩
        case round =>
          clear H1 d0 d1 d2
          obtain ⟨k, cnt, hk, rfl, hs1, hm1, hb1⟩ := hrel
          obtain ⟨d0, d1, d2, _, cz⟩ := hs1.cells
          by_cases hk9 : k < 9
          · obtain ⟨cs, hcs⟩ : ∃ cs : Array Value, cs = acells (z k) := ⟨_, rfl⟩
            have hsz : cs.size = 21 := by rw [hcs]; rfl
            have hld : (Instr.loadAt 65 (.pointer (some ⟨bA, k * 21, none⟩))).run Try.prog wr = .ok (.agg cs) wr := by
              have := run_loadAt_mid (P := Try.prog) wr bA (k * 21) 65 cs.toList _ (asset_range hs1.assets (by omega) (by rw [hcs])) Try.underlying65 rfl (by rw [Array.length_toList, hsz]; exact Try.size65)
              simpa using this
            have hst : (Instr.storeAt 65 (.pointer (some ⟨wr.heap.size, 0, none⟩)) (.agg cs)).run Try.prog (wr.alloc (.cells (acells ByteArray.empty) 65)) = .ok () (wr.alloc (.cells cs 65)) :=
              run_storeAt_new wr 65 _ _ (by rw [hsz]; exact Try.size65) (by rw [hsz]; rfl) (by rw [hcs]; simp [acells, Value.oneCell'])
            simp only [acells] at hst
            have H1 : Hid (SetIs wr b bA n z 9 (.map (some bm)) ∧ SMap wr bm (mIdx z k) cnt ∧ Below B w wr) := ⟨hs1, hm1, hb1⟩
            have HC : Hid (cs = acells (z k)) := hcs
            clear hs1 hm1 hb1 hcs cz hsz
            go_upto_region 12 with (first | (refine wpList_load_run rfl 65 (.tmp 65) rfl rfl hld ?_) | (refine wpList_store_run rfl 65 (.tmp 5) (.tmp 66) rfl rfl rfl rfl hst ?_))
            obtain ⟨bn, hbn⟩ : ∃ bn, bn = wr.heap.size := ⟨_, rfl⟩
            rw [← hbn]
            refine wp_gen (fun w2 => SetIs w2 b bA n z 9 (.map (some bm)) ∧ SMap w2 bm (mIdx z k) cnt ∧ Below B w w2 ∧ w2.cell? ⟨bn, 0, none⟩ = some (.string (z k))) ?_ ?_
            · obtain ⟨cA, hcA, _⟩ := H1.out.1.assets
              refine ⟨H1.out.1.of_blocks (Below.heap_alloc _ _ _ (lt_of_block H1.out.1.blk)) (Below.heap_alloc _ _ _ (lt_of_block hcA)), H1.out.2.1.of_block (Below.heap_alloc _ _ _ H1.out.2.1.lt), H1.out.2.2.alloc (Nat.le_trans hBm (Nat.le_of_lt H1.out.2.1.lt)) _, ?_⟩
              rw [hbn, cell_of_row _ _ _ _ _ _ (heap_alloc_new _ _), HC.out]
              simp [acells]
            · clear hld hst H1 HC hbn
              intro w2 ⟨hs2, hm2, hb2, c5⟩
              obtain ⟨d0, d1, d2, _, _⟩ := hs2.cells
              have hput := fun X (hX : X.heap = w2.heap) => (hm2.of_block (w' := X) (by rw [hX])).put_eq (P := Try.prog) (t := 66) Try.underlying66 Try.underlying9 (z k) (.bool true)
              have r1 := (hput w2.drew rfl).1
              have H2 : Hid (SetIs w2 b bA n z 9 (.map (some bm)) ∧ SMap w2 bm (mIdx z k) cnt ∧ Below B w w2) := ⟨hs2, hm2, hb2⟩
              have HP := (show Hid _ from hput)
              clear hput hs2 hm2 hb2
              go_region
              go_wp2
              go_roundw
              case rel =>
                obtain ⟨_, p1, p2, p3, p4⟩ := HP.out w2.drew rfl
                obtain ⟨cA, hcA, _⟩ := H2.out.1.assets
                refine ⟨k + 1, _, by omega, by go_num, H2.out.1.of_blocks (p4 b (SMap.ne_cells H2.out.2.1 H2.out.1.blk)) (p4 bA (SMap.ne_cells H2.out.2.1 hcA)), p1.congr (fun s => (mIdx_step s).symm), ?_⟩
                exact (Below.drew H2.out.2.2).grown p2 (Nat.le_trans hBm (Nat.le_of_lt H2.out.2.1.lt)) (fun x hx => by cases hx; exact hBm)
              case measure => simp [intOf]; omega
          · have hkk : k = 9 := by omega
            subst hkk
            go_wp2
            go_ret
            refine ⟨by rw [HI.out]; rfl, hb1, .map (some bm), ?_⟩
            rw [if_neg (by rw [HI.out]; simp)]
            exact ⟨hs1, .inr ⟨by omega, bm, _, rfl, hm1⟩, HS.out.hb, HS.out.hA, fun x e => by cases e; exact hBm⟩
    · go_upto_region 6 with fail
      refine wp_gen (fun w1 => SetIs w1 b bA n z (l + 1) (.map (some bm)) ∧ SMap w1 bm (mIdx z l) cnt ∧ Below B w w1) ?_ ?_
      · refine ⟨(HS.out.set.drewN nq).incr hl (by go_num), hm.of_block ?_, (below_drewN (Below.refl _ _) _).setCell HS.out.hb _⟩
        exact heap_setCell_other (w.drewN nq) ⟨b, 1, none⟩ bm _ (fun e => SMap.ne_cells hm HS.out.set.blk e.symm)
      · intro w1 ⟨hs1, hm1, hb1⟩
        obtain ⟨w2, hrun, hm2, hg2, hz2, ho2⟩ := hm1.put (P := Try.prog) (t := 66) Try.underlying66 Try.underlying9 (z l) (.bool true)
        obtain ⟨d0, d1, d2, _, _⟩ := hs1.cells
        have R : Hid (SetIs w2 b bA n z (l + 1) (.map (some bm)) ∧ SMap w2 bm (mIdx z (l + 1)) (if (mIdx z l (z l)).isSome then cnt else cnt + 1) ∧ Below B w w2) := by
          have hAs := hs1.assets
          obtain ⟨cA, hcA, _⟩ := hAs
          refine ⟨hs1.of_blocks (ho2 b (SMap.ne_cells hm1 hs1.blk)) (ho2 bA (SMap.ne_cells hm1 hcA)), hm2.congr (fun s => (mIdx_step s).symm), ?_⟩
          exact hb1.grown hg2 (Nat.le_trans (HS.out.hm bm rfl) (Nat.le_of_lt hm1.lt)) (fun k hk => by cases hk; exact HS.out.hm bm rfl)
        clear hm2 hg2 hz2 ho2 hm1 hb1 hs1 hm
        go_wp2
        go_ret
        refine ⟨by rw [HI.out]; rfl, R.out.2.2, .map (some bm), ?_⟩
        rw [if_neg (by rw [HI.out]; simp)]
        exact ⟨R.out.1, .inr ⟨by omega, bm, _, rfl, R.out.2.1⟩, HS.out.hb, HS.out.hA, HS.out.hm⟩

end Go.Proofs.Qxb6600608a
