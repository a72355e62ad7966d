import Derived.Test.Qxb6600523aMem
import Derived.Test.Qxb6600523aRuns
import Derived.Deep.LoopGhost
import Derived.BigRegion
import Derived.BigQuiet
import Derived.RegionTactic
import Derived.Deep.Cut
import Derived.Deep.CutRange
namespace Go.Proofs.Qxb6600523a
open Go.RowKit

theorem Try.info57 : (Try.prog.info? 57).map (fun i => (i.zero, i.size, i.bytes)) = some (some (.agg #[.int .i64 0, .int .i64 0]), 2, 16) := by kernel_rfl

def BlockPost (F : Nat → Nat) (J : St → Prop) (w : World) (e : Ending) (w' : World) : Prop :=
  ∃ s c nx, J s ∧ s.path = [(c, nx)] ∧ F (c + 1) ≤ nx ∧ e = .returned (vi s.bound) ∧ Below w.heap.size w w'

theorem pv1_one (x : Nat × Nat) : ∀ u ∈ pv1 x, u.oneCell' = true := by
  intro u hu
  simp only [pv1, List.mem_cons, List.not_mem_nil, or_false] at hu
  rcases hu with h | h <;> subst h <;> rfl

theorem flat_len : ∀ fs : List (Nat × List Nat), fs.length ≤ (flat fs).length
  | [] => Nat.le_refl _
  | (p, H) :: r => by have := flat_len r; simp only [flat, List.length_append, List.length_cons]; omega

theorem DI.lens {n : Nat} {F P : Nat → Nat} {s : St} {fs : List (Nat × List Nat)} {home cnt : Nat → Nat} (h : DI n F P s fs home cnt) : s.path.length ≤ n ∧ s.opens.length ≤ n ∧ s.placed ≤ n ∧ s.bound < n := by
  have h1 := nodup_le n _ h.nodup (fun v hv => (h.pl v hv).1)
  have h2 := flat_len fs
  have h3 := congrArg List.length h.dev
  simp only [List.length_map] at h3
  have h4 := cntPos_le s.place n
  have h5 := h.tot
  have h6 := h.bnd
  rw [h.opn]
  omega

theorem sumOf_mem {f : Nat → Nat} {l : List Nat} {o : Nat} (h : o ∈ l) : f o ≤ sumOf f l := by
  induction l with
  | nil => simp at h
  | cons a l ih =>
    simp only [sumOf]
    rcases List.mem_cons.1 h with e | e
    · subst e; omega
    · have := ih e; omega

theorem DI.sumL {n : Nat} {F P : Nat → Nat} {s : St} {fs : List (Nat × List Nat)} {home cnt : Nat → Nat} (h : DI n F P s fs home cnt) {L op : List Nat} (e : s.opens = L ++ op) : sumOf s.chain L + L.length ≤ n := by
  have h1 := sumOf_ge (f := s.chain) (g := cnt) (l := L) (fun o ho => h.cnt1 o (by rw [← h.opn, e]; exact List.mem_append.2 (.inl ho)))
  have h2 := h.sum
  rw [← h.opn, e, sumOf_append] at h2
  have := h.lens
  omega

theorem DI.chain_le {n : Nat} {F P : Nat → Nat} {s : St} {fs : List (Nat × List Nat)} {home cnt : Nat → Nat} (h : DI n F P s fs home cnt) {o : Nat} (e : o ∈ s.opens) : s.chain o ≤ n := by
  rw [h.opn] at e
  have h1 := h.cnt1 o e
  have h2 := sumOf_mem (f := cnt) e
  rw [h.sum] at h2
  have := h.lens
  omega

/-- The world behind a name, with what is known of it. -/
theorem wp_gen {P : Program} {c : Code} {Q : Exit → Act → World → Prop} {a : Act} {w : World} (R : World → Prop) (h : R w) (k : ∀ w', R w' → Code.wp P c Q a w') : Code.wp P c Q a w := k w h

theorem made_row (W : World) (n : Nat) : (W.alloc (.cells (madeCells #[.int .i64 0] n) 3)).rowIs W.heap.size 3 n (fun _ => vi 0) := World.rowIs_made _ _ _ _

theorem BM.first (w : World) (q n f0 : Nat) : BM w.heap.size n w ((((((w.drewN q).alloc (.cells (madeCells #[.int .i64 0] n) 3)).alloc (.cells (madeCells #[.int .i64 0] n) 3)).alloc (.cells (madeCells #[.int .i64 0] n) 3)).alloc (.cells #[.int .i64 0, .int .i64 f0] 57)).alloc (.cells #[.int .i64 0] 3))
    (fun _ => 0) (fun _ => 0) (fun _ => 0) [(0, f0)] [0] (.slice (some ⟨w.heap.size + 1 + 1 + 1, 0, none⟩) 1 1) (.slice (some ⟨w.heap.size + 1 + 1 + 1 + 1, 0, none⟩) 1 1) := by
  obtain ⟨w0, e0⟩ : ∃ w0, w0 = w.drewN q := ⟨_, rfl⟩
  have s0 : w0.heap.size = w.heap.size := by rw [e0]; rfl
  have b0 : Below w.heap.size w w0 := by rw [e0]; exact below_drewN (Below.refl _ _) q
  rw [← e0]
  clear e0
  obtain ⟨w1, e1⟩ : ∃ w1, w1 = w0.alloc (.cells (madeCells #[.int .i64 0] n) 3) := ⟨_, rfl⟩
  have s1 : w1.heap.size = w.heap.size + 1 := by rw [e1]; simp [s0]
  have r1 : w1.rowIs w.heap.size 3 n (fun _ => vi 0) := by have := made_row w0 n; rw [s0] at this; rw [e1]; exact this
  have b1 : Below w.heap.size w w1 := by rw [e1]; exact b0.alloc (by omega) _
  rw [← e1]
  clear e1
  obtain ⟨w2, e2⟩ : ∃ w2, w2 = w1.alloc (.cells (madeCells #[.int .i64 0] n) 3) := ⟨_, rfl⟩
  have s2 : w2.heap.size = w.heap.size + 2 := by rw [e2]; simp [s1]
  have r2 : w2.rowIs (w.heap.size + 1) 3 n (fun _ => vi 0) := by have := made_row w1 n; rw [s1] at this; rw [e2]; exact this
  have r1 : w2.rowIs w.heap.size 3 n (fun _ => vi 0) := by rw [e2]; exact r1.alloc _
  have b2 : Below w.heap.size w w2 := by rw [e2]; exact b1.alloc (by omega) _
  rw [← e2]
  clear e2
  obtain ⟨w3, e3⟩ : ∃ w3, w3 = w2.alloc (.cells (madeCells #[.int .i64 0] n) 3) := ⟨_, rfl⟩
  have s3 : w3.heap.size = w.heap.size + 3 := by rw [e3]; simp [s2]
  have r3 : w3.rowIs (w.heap.size + 2) 3 n (fun _ => vi 0) := by have := made_row w2 n; rw [s2] at this; rw [e3]; exact this
  have r2 : w3.rowIs (w.heap.size + 1) 3 n (fun _ => vi 0) := by rw [e3]; exact r2.alloc _
  have r1 : w3.rowIs w.heap.size 3 n (fun _ => vi 0) := by rw [e3]; exact r1.alloc _
  have b3 : Below w.heap.size w w3 := by rw [e3]; exact b2.alloc (by omega) _
  rw [← e3]
  clear e3
  have o1 := World.ownsRow_lit (base := w.heap.size + 3) (e := 57) (size := 2) w3 #[.int .i64 0, .int .i64 f0] 1 (by omega) (by decide) rfl
  have s4 : (w3.alloc (.cells #[.int .i64 0, .int .i64 f0] 57)).heap.size = w.heap.size + 4 := by simp [s3]
  have o2 := World.ownsRow_lit (base := w.heap.size + 3) (e := 3) (size := 1) (w3.alloc (.cells #[.int .i64 0, .int .i64 f0] 57)) #[.int .i64 0] 1 (by omega) (by decide) rfl
  rw [s3] at o1
  rw [s4] at o2
  exact ⟨(r1.alloc _).alloc _, (r2.alloc _).alloc _, (r3.alloc _).alloc _, o1.alloc _, o2, (b3.alloc (by omega) _).alloc (by omega) _⟩

set_option maxRecDepth 10000 in
set_option maxHeartbeats 16000000 in
theorem block_any (aF aP : Option Addr) (n m cF cP ab ao : Nat) (F P : Nat → Nat) (w : World) (hn : n ≤ 100000) (hm : m ≤ 100000) (sg : SG n m F P) (J : St → Prop) (hJ : Runs n F P J)
    (hF : Row .i64 w aF (n + 1) (fun i => (F i : Int))) (hP : Row .i32 w aP m (fun i => (P i : Int)))
    (hc0 : w.cell? ⟨ab, ao, none⟩ = some (.slice aF (n + 1) cF)) (hc1 : w.cell? ⟨ab, ao + 1, none⟩ = some (.slice aP m cP)) :
    Calls Try.prog 21 #[.pointer (some ⟨ab, ao, none⟩)] w (BlockPost F J w) := by
  obtain ⟨b, off, hb, rfl, hc⟩ := hF.pos (by omega)
  have HC : Hid (∀ i, i < n + 1 → w.cell? ⟨b, off + i, none⟩ = some (.int .i64 (F i))) := hc
  have hf0 : w.cell? ⟨b, off, none⟩ = some (.int .i64 (F 0)) := by simpa using hc 0 (by omega)
  have hmk := run_make_row' (P := Try.prog) 22 3 _ 8 Try.underlying22 Try.info3 rfl .i64 .i64 n (by omega) (by omega)
  obtain ⟨i0, hi, hz0, hz1, hz2⟩ := info_parts Try.info3
  obtain ⟨i1, hi1, hy0, hy1, hy2⟩ := info_parts Try.info57
  have hpos := sg.pos
  have hfx : ∀ q o1 o2 o3, ((((w.drewN q).alloc o1).alloc o2).alloc o3).cell? ⟨b, off, none⟩ = some (.int .i64 (F 0)) := by
    intro q o1 o2 o3
    rw [World.cell?_alloc_past _ _ _ (by simp; omega), World.cell?_alloc_past _ _ _ (by simp; omega), World.cell?_alloc_past _ _ _ (by simpa using hb)]
    exact hf0
  clear hc hF
  go_enter Try.func21, Try.ntmps21
  go_wp2
  go_quiet (fail)
  go_upto_region 8 with fail
  refine wp_gen (fun w1 => BM w.heap.size n w w1 (fun _ => 0) (fun _ => 0) (fun _ => 0) [(0, F 0)] [0] (.slice (some ⟨w.heap.size + 1 + 1 + 1, 0, none⟩) 1 1) (.slice (some ⟨w.heap.size + 1 + 1 + 1 + 1, 0, none⟩) 1 1)) (BM.first w _ n (F 0)) ?_
  intro w1 hB
  have c1 : w1.cell? ⟨w.heap.size, 0, none⟩ = some (.int .i64 0) := hB.place.cell hpos
  have c2 : w1.cell? ⟨w.heap.size + 1, 0, none⟩ = some (.int .i64 0) := hB.low.cell hpos
  have f1 := hB.place.frozen 0
  have f2 := hB.low.frozen 0
  have HB : Hid (BM w.heap.size n w w1 (fun _ => 0) (fun _ => 0) (fun _ => 0) [(0, F 0)] [0] (.slice (some ⟨w.heap.size + 1 + 1 + 1, 0, none⟩) 1 1) (.slice (some ⟨w.heap.size + 1 + 1 + 1 + 1, 0, none⟩) 1 1)) := hB
  clear hB hfx hmk hf0 hc0 hc1
  go_wp2
  go_loopg [9, 10, 11, 12] ((St.start F).mu F n) (fun k vp vo pl bd wr => ∃ s : St, J s ∧ Hid (s.mu F n = k) ∧ pl = .int .i64 (s.placed : Int) ∧ bd = .int .i64 (s.bound : Int) ∧ BM w.heap.size n w wr s.place s.low s.chain s.path s.opens vp vo ∧ s.path ≠ [])
  case atStart =>
    refine ⟨St.start F, hJ.start, rfl, rfl, rfl, ?_, by simp [St.start]⟩
    exact (HB.out.setPlace 0 1).setLow 0 1
  case round =>
    clear HB c1 c2 f1 f2
    obtain ⟨s, hs, hmu, rfl, rfl, hB, hne⟩ := hrel
    obtain ⟨fs, home, cnt, hD⟩ := hJ.safe s hs
    match hpath : s.path, hne with
    | (d, nx) :: r, _ =>
      rw [hpath] at hB
      obtain ⟨g, cap, rfl, hcap, hg, hgs, cd, cn, fn⟩ := hB.shape_path
      obtain ⟨hdn, hF1, hF2, hF3⟩ := hD.ports d nx (by rw [hpath]; simp)
      have HP : Hid (s.path = (d, nx) :: r) := hpath
      obtain ⟨hl1, hl2, hl3, hl4⟩ := hD.lens
      rw [hpath] at hl1
      simp only [List.length_cons] at hl1
      have HD : Hid (DI n F P s fs home cnt) := hD
      have HJs : Hid (J s) := hs
      have fle := sg.fle (d + 1) (by omega)
      have cF1 : wr.cell? ⟨b, off + (d + 1), none⟩ = some (.int .i64 (F (d + 1))) := by rw [hB.below.cell (by exact hb)]; exact HC.out (d + 1) (by omega)
      clear hpath hne hD hF3 hs
      by_cases hnx : nx < F (d + 1)
      · obtain ⟨b2, off2, hb2, rfl, cp⟩ := hP nx (by omega)
        have cp : wr.cell? ⟨b2, off2 + nx, none⟩ = some (.int .i32 (P nx)) := by rw [hB.below.cell (by exact hb2)]; exact cp
        have hpn := sg.lt d nx hdn hF1 hnx
        obtain ⟨p, hp⟩ : ∃ p, P nx = p := ⟨_, rfl⟩
        have HPP : Hid (P nx = p) := hp
        rw [hp] at cp hpn
        clear hp
        have cpl := hB.place.cell hpn
        by_cases hpl : 0 < s.place p
        · as_aux_lemma =>
            have clo := hB.low.cell hdn
            have flo := hB.low.frozen d
            have HBM := (show Hid _ from hB)
            clear hB
            unfold vi at cd cn cpl clo
            go_wp2
            go_quiet (fail)
            go_wp2
            refine wp_gen (fun w2 => BM w.heap.size n w w2 s.place s.low s.chain ((d, nx + 1) :: r) s.opens (.slice (some ⟨g, 0, none⟩) (r.length + 1) cap) _) ((HBM.out.drewN _).next hg) ?_
            intro w2 hB
            clear HBM cd cn fn cpl clo flo cF1 cp
            obtain ⟨g', cap', e, _, _, _, cd, cn, fn⟩ := hB.shape_path
            simp only [Value.slice.injEq, Option.some.injEq, Addr.mk.injEq, and_true, true_and] at e
            obtain ⟨rfl, rfl⟩ := e
            have cpl := hB.place.cell hpn
            have clo := hB.low.cell hdn
            have flo := hB.low.frozen d
            have HBM := (show Hid _ from hB)
            clear hB
            unfold vi at cd cn cpl clo
            go_region
            all_goals go_wp2
            all_goals
              go_roundg ((s.scan d nx r p).mu F n)
              case measure => rw [← hmu.out]; exact St.scan_mu HP.out hnx
              case rel =>
                refine ⟨s.scan d nx r p, ?_, rfl, rfl, rfl, (HBM.out.setLow2 d (min (s.low d) (s.place p)) (vi_of (by omega))).drewN 1, by simp [St.scan]⟩
                have := hJ.scan s d nx r HJs.out HP.out hnx (by rw [HPP.out]; exact hpl)
                rw [HPP.out] at this
                exact this
        · as_aux_lemma =>
            have hpl0 : s.place p = 0 := by omega
            have cpp := hB.place.frozen p
            have clp := hB.low.cell hpn
            have flp := hB.low.frozen p
            have cfp : wr.cell? ⟨b, off + p, none⟩ = some (.int .i64 (F p)) := by rw [hB.below.cell (by exact hb)]; exact HC.out p (by omega)
            have fpm := sg.fle p (by omega)
            have HBM := (show Hid _ from hB)
            clear hB
            unfold vi at cd cn cpl clp
            rw [hpl0] at cpl
            go_wp2
            go_quiet (fail)
            go_upto_region 17 with fail
            refine wp_gen (fun w2 => BM w.heap.size n w w2 s.place s.low s.chain ((d, nx + 1) :: r) s.opens (.slice (some ⟨g, 0, none⟩) (r.length + 1) cap) _) ((HBM.out.drewN _).next hg) ?_
            intro w2 hB
            clear HBM cd cn fn cpl clp cpp flp cfp cF1 cp
            have cpl := hB.place.cell hpn
            have cpp := hB.place.frozen p
            have clp := hB.low.cell hpn
            have flp := hB.low.frozen p
            have HBM := (show Hid _ from hB)
            clear hB
            unfold vi at cpl clp
            go_upto_region 19 with fail
            refine wp_gen (fun w2 => BM w.heap.size n w w2 (upd s.place p (s.placed + 1)) (upd s.low p (s.placed + 1)) s.chain ((d, nx + 1) :: r) s.opens (.slice (some ⟨g, 0, none⟩) (r.length + 1) cap) _) ((HBM.out.setPlace2 p (s.placed + 1) (by unfold vi; go_num)).setLow2 p (s.placed + 1) (by unfold vi; go_num)) ?_
            clear HBM cpl cpp clp flp
            clear w2
            intro w2 hB
            have cfp : w2.cell? ⟨b, off + p, none⟩ = some (.int .i64 (F p)) := by rw [hB.below.cell (by exact hb)]; exact HC.out p (by omega)
            have hsz := hB.size
            have hpo := hB.path
            have HBM := (show Hid _ from hB)
            clear hB
            go_wp2_with (first | (at_builtin; refine wpList_append_own _ rfl (.tmp 118) (.tmp 125) 58 rfl (w.heap.size + 3) 57 i1 (.agg #[.int .i64 0, .int .i64 0]) 2 16 Try.underlying58 hi1 hy0 hy1 hy2 rfl (by decide) _ _ _ rfl (hpo.alloc _) ⟨w2.heap.size, 0, none⟩ 1 1 (pv1 (p, F p)) rfl rfl (cell_two_new _ _ _ _) (pv1_one _) (by unfold maxLen; simp; omega) (by simp; omega) (by simp; omega) ?_))
            intro vp' w3 hown hgrow _
            have hB := HBM.out.pushPath hown hgrow
            clear hown hgrow hpo HBM cfp hsz
            have hsz := hB.size
            have hoo := hB.opens
            have HBM := (show Hid _ from hB)
            clear hB
            go_wp2_with (first | (at_builtin; refine wpList_append_own _ rfl (.tmp 127) (.tmp 129) 22 rfl (w.heap.size + 3) 3 i0 (.int .i64 0) 1 8 Try.underlying22 hi hz0 hz1 hz2 rfl (by decide) _ _ _ rfl (hoo.alloc _) ⟨w3.heap.size, 0, none⟩ 1 1 [vi p] rfl rfl (one_new rfl) (int_one _ _) (by unfold maxLen; omega) (by omega) (by simp; omega) ?_))
            intro vo' w4 hown hgrow _
            have hB := HBM.out.pushOpen hown hgrow
            clear hown hgrow hoo HBM hsz
            go_wp2
            go_roundg ((s.push F d nx r p).mu F n)
            case measure => rw [← hmu.out]; exact St.push_mu HP.out hnx hpn hpl0
            case rel =>
              refine ⟨s.push F d nx r p, ?_, rfl, by go_num, rfl, hB, by simp [St.push]⟩
              have := hJ.push s d nx r HJs.out HP.out hnx (by rw [HPP.out]; exact hpl0)
              rw [HPP.out] at this
              exact this
      · have hge : F (d + 1) ≤ nx := by omega
        match r, HP with
        | [], HP =>
          as_aux_lemma =>
            have HBM := (show Hid _ from hB)
            clear hB
            unfold vi at cd cn
            simp only [List.length_nil, Nat.zero_mul, Nat.zero_add] at cd cn fn hcap
            go_wp2
            go_quiet (fail)
            go_wp2
            go_ret
            exact ⟨s, d, nx, HJs.out, HP.out, hge, rfl, below_drewN HBM.out.below _⟩
        | (u, nu) :: r', HP =>
          simp only [List.length_cons] at hl1 cd cn fn hcap
          have hpop := hB.popPath
          obtain ⟨g', cap', e, _, _, _, cu, _, _⟩ := hpop.shape_path
          simp only [Value.slice.injEq, Option.some.injEq, Addr.mk.injEq, and_true, true_and, List.length_cons] at e
          obtain ⟨rfl, rfl⟩ := e
          obtain ⟨hun, _, _, _⟩ := HD.out.ports u nu (by rw [HP.out]; simp)
          have hcu : d ≠ u := by
            obtain ⟨H, fr, hfs, hr⟩ := HD.out.top HP.out
            have := HD.out.frames
            rw [hfs] at this
            have := this.1.up u (by rw [← hr]; simp)
            intro e
            subst e
            omega
          have clu := hB.low.cell hun
          have flu := hB.low.frozen u
          have clc := hB.low.cell hdn
          have cpu := hB.place.cell hun
          have HBM := (show Hid _ from hpop)
          clear hB hpop
          unfold vi at cd cn cu clu clc cpu
          go_wp2
          go_quiet (fail)
          go_wp2
          refine wp_gen (fun w2 => BM w.heap.size n w w2 s.place s.low s.chain ((u, nu) :: r') s.opens (.slice (some ⟨g, 0, none⟩) (r'.length + 1) cap) _) (HBM.out.drewN _) ?_
          intro w2 hB
          clear HBM cd cn fn cu clu flu clc cpu
          have clu := hB.low.cell hun
          have flu := hB.low.frozen u
          have clc := hB.low.cell hdn
          have HBM := (show Hid _ from hB)
          clear hB
          unfold vi at clu clc
          go_region
          all_goals go_upto_region 26 with fail
          refine wp_gen (fun w3 => BM w.heap.size n w w3 s.place (upd s.low u (min (s.low u) (s.low d))) s.chain ((u, nu) :: r') s.opens (.slice (some ⟨g, 0, none⟩) (r'.length + 1) cap) _) ((HBM.out.setLow2 u (min (s.low u) (s.low d)) (by split <;> exact vi_of (by omega))).drewN 1) ?_
          clear HBM clu flu clc
          clear w2
          intro w2 hB
          generalize (if s.low d < s.low u then ((s.low d : Nat) : Int) else ((s.low u : Nat) : Int)) = x160
          have clc := hB.low.cell hdn
          rw [upd_other _ _ hcu] at clc
          have cpu := hB.place.cell hun
          by_cases hcl : s.low d < s.place u
          · as_aux_lemma =>
              have HBM := (show Hid _ from hB)
              clear hB
              unfold vi at clc cpu
              go_quiet (fail)
              go_wp2
              go_roundg ((s.merge d u ((u, nu) :: r')).mu F n)
              case measure => rw [← hmu.out]; exact St.merge_mu HP.out
              case rel => exact ⟨s.merge d u ((u, nu) :: r'), hJ.merge s d nx u nu r' HJs.out HP.out hge hcl, rfl, rfl, rfl, HBM.out.drewN _, by simp [St.merge]⟩
          · have hcl' : s.place u ≤ s.low d := by omega
            have HBM := (show Hid _ from hB)
            clear hB
            unfold vi at clc cpu
            go_quiet (fail)
            go_wp2
            have hB := HBM.out.drewN nq
            clear HBM clc cpu
            refine wp_gen (fun w3 => BM w.heap.size n w w3 s.place (upd s.low u (min (s.low u) (s.low d))) s.chain ((u, nu) :: r') s.opens (.slice (some ⟨g, 0, none⟩) (r'.length + 1) cap) _) hB ?_
            clear hB
            clear w2
            intro w2 hB
            have hcm : d ∈ s.opens := by rw [HD.out.opn]; exact HD.out.path_flat (by rw [HP.out]; simp)
            go_loopg [10, 17, 18, 19] s.opens.length (fun k vo sz a b wr => ∃ (L op : List Nat) (x y : Nat), wr = w2 ∧ Hid (s.opens = L ++ op) ∧ d ∉ L ∧ op.length = k ∧ L.length + op.length ≤ n ∧ sz = .int .i64 ((L.length + 1 : Nat) : Int) ∧ a = .int .i64 (x : Int) ∧ b = .int .i64 (y : Int) ∧ Top2 s.chain L x y ∧
              BM w.heap.size n w w2 s.place (upd s.low u (min (s.low u) (s.low d))) s.chain ((u, nu) :: r') op (.slice (some ⟨g, 0, none⟩) (r'.length + 1) cap) vo)
            case atStart => exact ⟨[], s.opens, 0, 0, rfl, rfl, by simp, rfl, by simpa using hl2, rfl, rfl, rfl, Top2.nil _, hB⟩
            case round =>
              clear hB
              obtain ⟨L, op, x, y, rfl, hops, hdL, rfl, hlen, rfl, rfl, rfl, htop, hB⟩ := hrel
              have hsum := HD.out.sumL hops.out
              have hts := htop.sum
              have hne : op ≠ [] := by
                intro e
                rw [hops.out, e, List.append_nil] at hcm
                exact hdL hcm
              match op, hne with
              | e :: op', _ =>
                obtain ⟨go, co, rfl, hco, _, _, ce⟩ := hB.shape_open
                have hem : e ∈ s.opens := by rw [hops.out]; simp
                have hen : e < n := by rw [HD.out.opn] at hem; exact (HD.out.pl e hem).1
                have che := HD.out.chain_le hem
                have cch := hB.chain.cell hen
                have ccu := hB.chain.cell hun
                have fcu := hB.chain.frozen u
                have chu := HD.out.chain_le (o := u) (by rw [HD.out.opn]; exact HD.out.path_flat (by rw [HP.out]; simp))
                have hpop := hB.popOpen
                simp only [List.length_cons] at hlen
                have HBM := (show Hid _ from hpop)
                have HT := (show Hid _ from htop)
                clear hB hpop htop hcm hem
                unfold vi at ce cch ccu
                have hops' : Hid (s.opens = (L ++ [e]) ++ op') := by rw [List.append_assoc]; exact hops
                have hdL' : e ≠ d → d ∉ L ++ [e] := fun hed h => by
                  rcases List.mem_append.1 h with h | h
                  · exact hdL h
                  · exact hed (by simpa using h : d = e).symm
                have hlen2 : (L ++ [e]).length = L.length + 1 := by simp
                have hlen' : (L ++ [e]).length + op'.length ≤ n := by rw [hlen2]; omega
                have HL := (show Hid _ from (And.intro hlen2 (And.intro hlen' hdL')))
                clear hlen2 hlen' hdL'
                by_cases hx : x < s.chain e
                · by_cases hed : e = d
                  · as_aux_lemma =>
                      subst hed
                      have HX : Hid (Top2 s.chain (L ++ [e]) (s.chain e) x) := HT.out.more hx
                      have HO : Hid (s.opens = L ++ e :: op') := hops
                      clear HT HL hops hops'
                      go_wp2
                      all_goals
                        go_roundg ((s.close e u ((u, nu) :: r') op' ((L.length + 2) / 2) (s.chain e) x).mu F n)
                        case measure => rw [← hmu.out]; exact St.close_mu HP.out
                        case rel =>
                          refine ⟨s.close e u ((u, nu) :: r') op' ((L.length + 2) / 2) (s.chain e) x, hJ.close s e nx u nu r' L op' _ _ HJs.out HP.out hge hcl' HO.out hdL HX.out, rfl, rfl, ?_, HBM.out.setChain2 u _ ?_, by simp [St.close]⟩
                          · exact vi_int (by omega) (show _ = max (max s.bound ((L.length + 2) / 2 + s.chain e + x)) (s.chain u + (L.length + 2) / 2 + s.chain e) from by omega)
                          · exact vi_int (by omega) (by omega)
                  · as_aux_lemma =>
                      have hed' : ((e : Int) == d) = false := by simp only [beq_eq_false_iff_ne]; omega
                      go_wp2
                      go_roundg op'.length
                      case measure => simp
                      case rel => exact ⟨L ++ [e], op', s.chain e, x, rfl, hops', HL.out.2.2 hed, rfl, HL.out.2.1, by rw [HL.out.1]; go_num, rfl, rfl, HT.out.more hx, HBM.out⟩
                · by_cases hed : e = d
                  · as_aux_lemma =>
                      subst hed
                      have HX : Hid (Top2 s.chain (L ++ [e]) x (max y (s.chain e))) := HT.out.less (by omega)
                      have HO : Hid (s.opens = L ++ e :: op') := hops
                      clear HT HL hops hops'
                      by_cases hy : y < s.chain e
                      all_goals go_wp2
                      all_goals
                        go_roundg ((s.close e u ((u, nu) :: r') op' ((L.length + 2) / 2) x (max y (s.chain e))).mu F n)
                        case measure => rw [← hmu.out]; exact St.close_mu HP.out
                        case rel =>
                          refine ⟨s.close e u ((u, nu) :: r') op' ((L.length + 2) / 2) x (max y (s.chain e)), hJ.close s e nx u nu r' L op' _ _ HJs.out HP.out hge hcl' HO.out hdL HX.out, rfl, rfl, ?_, HBM.out.setChain2 u _ ?_, by simp [St.close]⟩
                          · exact vi_int (by omega) (show _ = max (max s.bound ((L.length + 2) / 2 + x + max y (s.chain e))) (s.chain u + (L.length + 2) / 2 + x) from by omega)
                          · exact vi_int (by omega) (by omega)
                  · as_aux_lemma =>
                      have hed' : ((e : Int) == d) = false := by simp only [beq_eq_false_iff_ne]; omega
                      by_cases hy : y < s.chain e
                      all_goals
                        go_wp2
                        go_roundg op'.length
                        case measure => simp
                        case rel => exact ⟨L ++ [e], op', x, max y (s.chain e), rfl, hops', HL.out.2.2 hed, rfl, HL.out.2.1, by rw [HL.out.1]; go_num, rfl, vi_of (by omega), HT.out.less (by omega), HBM.out⟩

end Go.Proofs.Qxb6600523a
