import Derived.Test.Qxb6600523aSimple
import Derived.Test.Qxb6600523aBfs
namespace Go.Proofs.Qxb6600523a
open Go.RowKit

/-- What the search hands back: a new row of the distances. -/
def DistPost (n : Nat) (F P : Nat → Nat) (s : Nat) (w : World) (e : Ending) (w' : World) : Prop :=
  ∃ (D : Nat → Int) (b : Nat), e = .returned (.slice (some ⟨b, 0, none⟩) n n) ∧ w'.rowIs b 3 n (fun j => .int .i64 (D j)) ∧ BRes n F P s D ∧ Below w.heap.size w w'

/-- The one cell of a block that has just been laid. -/
theorem one_new {W : World} {x : Value} {t : TypeId} {k : Nat} (hk : k = W.heap.size) : ∀ j u, [x][j]? = some u → (W.alloc (.cells #[x] t)).cell? ((⟨k, 0, none⟩ : Addr).add j) = some u := by
  subst hk
  intro j u hj
  match j, hj with
  | 0, hj => simp at hj; subst hj; simp [Addr.add]
  | j + 1, hj => simp at hj

theorem size_setCell (W : World) (a : Addr) (v : Value) : (W.setCell a v).heap.size = W.heap.size := by simp [World.setCell]

theorem int_one (k : IntKind) (z : Int) : ∀ u ∈ [Value.int k z], u.oneCell' = true := by
  intro u hu
  have : u = .int k z := by simpa using hu
  subst this
  rfl

def qv (Q : List Nat) : List Value := Q.map fun (v : Nat) => .int .i64 (v : Int)

/-- What holds of memory while the search runs: the row of the distances at B, the queue at B + 1. -/
structure DMem (B n : Nat) (w wr : World) (D : Nat → Int) (Q : List Nat) : Prop where
  dist : wr.rowIs B 3 n (fun j => .int .i64 (D j))
  queue : wr.ownsRow (B + 1) 3 1 (.slice (some ⟨B + 1, 0, none⟩) Q.length n) Q.length (qv Q)
  below : Below B w wr

theorem DMem.cell {B n : Nat} {w wr : World} {D : Nat → Int} {Q : List Nat} (h : DMem B n w wr D Q) {i : Nat} (hi : i < Q.length) : wr.cell? ⟨B + 1, i, none⟩ = some (.int .i64 (Q.getD i 0 : Nat)) := by
  rw [h.queue.cellAt i (by omega)]
  simp [qv, List.getD, hi]

theorem DMem.size {B n : Nat} {w wr : World} {D : Nat → Int} {Q : List Nat} (h : DMem B n w wr D Q) : B + 2 ≤ wr.heap.size := by
  have := h.queue.lt (B + 1) rfl
  omega

/-- Behind 'dist[v] = d; queue = append(queue, v)'. -/
theorem DMem.push {B n : Nat} {w wr w2 : World} {D : Nat → Int} {Q : List Nat} (h : DMem B n w wr D Q) {v : Nat} {d : Int} {x : Value} {o : Obj} (hx : x = .slice (some ⟨B + 1, 0, none⟩) (Q.length + 1) n)
    (hown : w2.ownsRow (B + 1) 3 1 x (Q.length + 1) (qv Q ++ [.int .i64 v])) (hg : ((wr.setCell ⟨B, v, none⟩ (.int .i64 d)).alloc o).grownBy w2 (some (B + 1))) :
    DMem B n w w2 (fun j => if j = v then d else D j) (Q ++ [v]) := by
  subst hx
  have hs := h.size
  refine ⟨?_, ?_, ?_⟩
  · have h1 := (h.dist.set v (.int .i64 d)).alloc o
    have h2 := h1.of_block (w' := w2) (hg.block B (by simp; omega) (by simp))
    refine h2.congr fun i hi => ?_
    by_cases e : i = v <;> simp [e]
  · have e : qv (Q ++ [v]) = qv Q ++ [.int .i64 v] := by simp [qv]
    rw [e, List.length_append]
    exact hown
  · exact ((h.below.setCell (Nat.le_refl _) _).alloc (by simp; omega) o).grown hg (by simp; omega) (by simp)

set_option maxRecDepth 10000 in
set_option maxHeartbeats 1000000 in
theorem dist_any (aF aP : Option Addr) (n m cF cP s : Nat) (F P : Nat → Nat) (w : World) (hn : n ≤ 100000) (hm : m ≤ 100000) (sg : SG n m F P) (hs : s < n)
    (hF : Row .i64 w aF (n + 1) (fun i => (F i : Int))) (hP : Row .i32 w aP m (fun i => (P i : Int))) :
    Calls Try.prog 17 #[.slice aF (n + 1) cF, .slice aP m cP, .int .i64 s] w (DistPost n F P s w) := by
  obtain ⟨b, off, hb, rfl, hc⟩ := hF.pos (by omega)
  have HC : Hid (∀ i, i < n + 1 → w.cell? ⟨b, off + i, none⟩ = some (.int .i64 (F i))) := hc
  have hmk := run_make_row' (P := Try.prog) 22 3 _ 8 Try.underlying22 Try.info3 rfl .i64 .i64 n (by omega) (by omega)
  obtain ⟨i0, hi, hz0, hz1, hz2⟩ := info_parts Try.info3
  clear hc hF
  go_enter Try.func17, Try.ntmps17
  go_wp2
  go_loopw [9] (fun i wr => ∃ k : Nat, k ≤ n ∧ i = .int .i64 k ∧ wr.rowIs w.heap.size 3 n (fun j => .int .i64 (if j < k then -1 else 0)) ∧ Below w.heap.size w wr ∧ wr.heap.size = w.heap.size + 1) (fun i _ => n - (intOf i).toNat)
  case atStart => exact ⟨0, Nat.zero_le _, rfl, (World.rowIs_made _ _ _ _).congr (fun i _ => by simp), (Below.refl _ _).alloc (Nat.le_refl _) _, by simp⟩
  case round =>
    obtain ⟨k, hk, rfl, hrow, hbel, hsz⟩ := hrel
    by_cases hlt : k < n
    · have hc2 := hrow.cell hlt
      have hf2 := hrow.frozen k
      have HR : Hid (wr.rowIs w.heap.size 3 n (fun j => .int .i64 (if j < k then -1 else 0))) := hrow
      clear hrow
      go_wp2
      go_roundw
      case rel =>
        refine ⟨k + 1, by omega, by go_num, (HR.out.set k _).congr (fun i hi => ?_), hbel.setCell (Nat.le_refl _) _, by simpa [World.setCell] using hsz⟩
        by_cases e : i = k
        · subst e; simp
        · have : i < k + 1 ↔ i < k := by omega
          simp [e, this]
      case measure => simp [intOf]; omega
    · have hk' : k = n := by omega
      subst hk'
      have hc2 := hrow.cell hs
      have hf2 := hrow.frozen s
      have hrowlt := hrow.lt
      have HR : Hid (wr.rowIs w.heap.size 3 k (fun j => .int .i64 (if j < k then -1 else 0))) := hrow
      clear hrow
      go_wp2_with (first | (at_make; refine wpList_make_own _ rfl _ _ 22 rfl (w.heap.size + 1) 3 i0 (.int .i64 0) 1 Try.underlying22 hi hz0 hz1 _ _ _ k rfl rfl rfl (by rw [hz2]; omega) (by unfold maxLen; omega) (by omega) ?_))
      intro w1 hown hgrow
      have hlt := hrowlt
      have hr1 : w1.rowIs w.heap.size 3 k (fun j => .int .i64 (if j < k then -1 else 0)) := HR.out.of_block (hgrow.block _ hlt (by simp))
      have hb1 : Below w.heap.size w w1 := hbel.grown hgrow (by omega) (by simp)
      have hs1 : w.heap.size + 1 ≤ w1.heap.size := by have := hgrow.size; omega
      have hc3 := hr1.cell hs
      have hf3 := hr1.frozen s
      have HR1 : Hid (w1.rowIs w.heap.size 3 k (fun j => .int .i64 (if j < k then -1 else 0))) := hr1
      clear hr1 HR hc2 hf2 hbel hgrow hmk hsz
      go_wp2_with (first | (at_builtin; refine wpList_append_fits _ rfl _ _ 22 rfl (w.heap.size + 1) 3 i0 1 Try.underlying22 hi hz1 (w.heap.size + 1) 0 k [] rfl ((ownsRow_setCell_below hown (by simp) _).alloc _) ⟨w1.heap.size, 0, none⟩ 1 1 [.int .i64 s] rfl rfl (one_new (size_setCell _ _ _).symm) (int_one _ _) (by omega) ?_))
      intro w2 hown2 hgrow2
      have hD : DMem w.heap.size k w w2 (fun j => if j = s then 0 else if j < k then -1 else 0) [s] := by
        refine ⟨?_, ?_, ?_⟩
        · have h1 := (HR1.out.set s (.int .i64 0)).alloc (.cells #[.int .i64 s] 3)
          refine (h1.of_block (hgrow2.block _ (by simp; omega) (by simp))).congr fun i hi => ?_
          by_cases e : i = s <;> simp [e]
        · exact hown2
        · exact ((hb1.setCell (Nat.le_refl _) _).alloc (by simp; omega) _).grown hgrow2 (by simp; omega) (by simp)
      have hB := BH.start (n := k) (F := F) (P := P) hs (D := fun j => if j = s then 0 else if j < k then -1 else 0) (by simp) (fun v hv hne => by simp [hv, hne])
      clear HR1 hb1 hs1 hc3 hf3 hown hown2 hgrow2
      go_wp2
      go_loopw [10, 11] (fun q i wr => ∃ (D : Nat → Int) (Q : List Nat) (h : Nat), q = .slice (some ⟨w.heap.size + 1, 0, none⟩) Q.length k ∧ i = .int .i64 h ∧ BH k F P s D Q h ∧ DMem w.heap.size k w wr D Q) (fun _ i _ => k - (intOf i).toNat)
      case atStart => exact ⟨_, _, 0, rfl, rfl, hB, hD⟩
      case round =>
        obtain ⟨D, Q, h, rfl, rfl, hB, hD⟩ := hrel
        have hQ := nodup_le k Q hB.nodup hB.lt
        by_cases hlt : h < Q.length
        · have hum := getD_mem hlt
          have hcq := hD.cell hlt
          obtain ⟨u, hu⟩ : ∃ u, u = Q.getD h 0 := ⟨_, rfl⟩
          have HU : Hid (Q.getD h 0 = u) := hu.symm
          have hun : u < k := by rw [hu]; exact hB.lt _ hum
          rw [← hu] at hcq
          clear hu hum
          have cu : wr.cell? ⟨b, off + u, none⟩ = some (.int .i64 (F u)) := by rw [hD.below.cell (by exact hb)]; exact HC.out u (by omega)
          have fu := sg.fle (u + 1) (by omega)
          have fm := sg.mono u hun
          go_wp2
          have hBh := hB
          have hDm := hD
          clear hB hD hcq cu
          go_loopw [10, 13] (fun q j wr => ∃ (D : Nat → Int) (Q : List Nat) (i : Nat), q = .slice (some ⟨w.heap.size + 1, 0, none⟩) Q.length k ∧ j = .int .i64 i ∧ F u ≤ i ∧ i ≤ F (u + 1) ∧ h < Q.length ∧ BH k F P s D Q h ∧ DMem w.heap.size k w wr D Q ∧ Hid (Q.getD h 0 = u) ∧ Hid (∀ x, F u ≤ x → x < i → P x ∈ Q)) (fun _ j _ => F (u + 1) - (intOf j).toNat)
          case atStart => exact ⟨D, Q, F u, rfl, rfl, Nat.le_refl _, fm, hlt, hBh, hDm, HU, fun x h1 h2 => absurd h1 (by omega)⟩
          case round =>
            clear hBh hDm HU hQ hlt
            obtain ⟨D, Q, i, rfl, rfl, hi1, hi2, hlt, hB, hD, HU, HP⟩ := hrel
            have hQ := nodup_le k Q hB.nodup hB.lt
            have cu1 : wr.cell? ⟨b, off + (u + 1), none⟩ = some (.int .i64 (F (u + 1))) := by rw [hD.below.cell (by exact hb)]; exact HC.out (u + 1) (by omega)
            by_cases hi : i < F (u + 1)
            · obtain ⟨b2, off2, hb2, rfl, ci⟩ := hP i (by omega)
              have ci : wr.cell? ⟨b2, off2 + i, none⟩ = some (.int .i32 (P i)) := by rw [hD.below.cell (by exact hb2)]; exact ci
              have hv := sg.lt u i hun hi1 hi
              have ha : Adj k F P u (P i) := ⟨hun, i, hi1, hi, rfl⟩
              obtain ⟨v, hv'⟩ : ∃ v, v = P i := ⟨_, rfl⟩
              rw [← hv'] at ci hv ha
              have HV : Hid (P i = v) := hv'.symm
              clear hv'
              have cd := hD.dist.cell hv
              have cf := hD.dist.frozen v
              have cdu := hD.dist.cell hun
              have du1 : 0 ≤ D u := by have := hB.pos _ (getD_mem hlt); rw [HU.out] at this; exact this
              have du2 : D u ≤ h := by have := hB.small h hlt; rw [HU.out] at this; exact this
              by_cases hm : v ∈ Q
              · have dv := hB.pos v hm
                have HD : Hid (DMem w.heap.size k w wr D Q) := hD
                clear hD
                go_wp2
                go_roundw
                case rel => exact ⟨D, Q, i + 1, rfl, by go_num, by omega, by omega, hlt, hB, HD.out, HU, fun x h1 h2 => by
                  by_cases e : x = i
                  · subst e; rw [HV.out]; exact hm
                  · exact HP.out x h1 (by omega)⟩
                case measure => simp [intOf]; omega
              · have dv := hB.neg v hv hm
                have hB2 := hB.push hlt hv hm (by rw [HU.out]; exact ha)
                rw [HU.out] at hB2
                have hQ2 := nodup_le k _ hB2.nodup hB2.lt
                rw [List.length_append] at hQ2
                simp only [List.length_cons, List.length_nil] at hQ2
                rw [dv] at cd
                have HD : Hid (DMem w.heap.size k w wr D Q) := hD
                have hq := hD.queue
                clear hD dv
                go_wp2_with (first | (at_builtin; refine wpList_append_fits _ rfl _ _ 22 rfl (w.heap.size + 1) 3 i0 1 Try.underlying22 ‹_› hz1 (w.heap.size + 1) Q.length k (qv Q) rfl ((ownsRow_setCell_below hq (by simp) _).alloc _) ⟨wr.heap.size, 0, none⟩ 1 1 [.int .i64 v] rfl rfl (one_new (size_setCell _ _ _).symm) (int_one _ _) (by omega) ?_))
                intro w2 hown2 hgrow2
                have hD2 := HD.out.push rfl hown2 hgrow2
                clear hown2 hgrow2 hq HD
                go_wp2
                go_roundw
                case rel => exact ⟨_, Q ++ [v], i + 1, by simp, by go_num, by omega, by omega, by simp; omega, hB2, hD2, by
                  show (Q ++ [v]).getD h 0 = u
                  rw [getD_append_left' hlt]; exact HU.out, fun x h1 h2 => by
                  by_cases e : x = i
                  · subst e; rw [HV.out]; simp
                  · exact List.mem_append.2 (.inl (HP.out x h1 (by omega)))⟩
                case measure => simp [intOf]; omega
            · have hi' : i = F (u + 1) := by omega
              have hB2 := hB.next hlt (by rw [HU.out]; exact fun x h1 h2 => HP.out x h1 (by omega))
              clear hi'
              go_wp2
              go_roundw
              case rel => exact ⟨D, Q, h + 1, rfl, by go_num, hB2, hD⟩
              case measure => simp [intOf]; omega
        · go_wp2
          go_ret
          exact ⟨D, _, rfl, hD.dist, hB.done (by omega), hD.below⟩

end Go.Proofs.Qxb6600523a
