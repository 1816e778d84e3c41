import Derived.Test.Qxb6630079aClone
namespace Go.Proofs.Qxb6630079a
open Go.RowKit

set_option maxHeartbeats 1000000 in
theorem clone_nil (w : World) : Calls Try.prog 7 #[.slice none 0 0] w fun e w' => e = .returned (.slice none 0 0) ∧ w' = w := by
  have ke := fun (wx : World) (a : Option Addr) (n c : Nat) => Lib.run_eql_slice_nil (P := Try.prog) wx 22 33 a n c 0 0 Try.underlying22
  go_enter Try.func7, Try.ntmps7
  go_wp2
  go_ret
  exact ⟨rfl, rfl⟩

theorem put5_drew (w : World) (g o : Nat) (a : WA) (v : Value) : (put5 w g o a v).drew = put5 (w.drewN 1) g o a v := by
  show _ = put5 w.drew g o a v
  unfold put5; simp only [World.setCell_drew]
theorem CR.cell {A : List WA} {Z : List Value} {w wr : World} {vs : List Value} (h : CR A Z w wr vs) (j : Nat) (hj : j < A.length * 5) : ∃ c, wr.cell? ⟨w.heap.size, j, none⟩ = some c := by
  have h1 := h.2.2.1
  rw [h1.cellAt j hj]
  have := h1.1
  exact ⟨_, List.getElem?_eq_getElem (by omega)⟩
theorem CR.free {A : List WA} {Z : List Value} {w wr : World} {vs : List Value} (h : CR A Z w wr vs) (j : Nat) : wr.frozen? ⟨w.heap.size, j, none⟩ = false := h.2.2.1.frozenAt j

/-- The state of zzClone's inner loop. -/
def IR (ss : List ByteArray) (Z : List Value) (wr wj : World) (j : Nat) : Prop :=
  wj.ownsRow wr.heap.size 9 1 (.slice (some ⟨wr.heap.size, 0, none⟩) ss.length ss.length) ss.length ((ss.take j).map Value.string ++ Z.drop j) ∧ Below wr.heap.size wr wj ∧ Z.length = ss.length
theorem IR.cell {ss : List ByteArray} {Z : List Value} {wr wj : World} {j : Nat} (h : IR ss Z wr wj j) (i : Nat) (hi : i < ss.length) : ∃ c, wj.cell? ⟨wr.heap.size, i, none⟩ = some c := by
  rw [h.1.cellAt i (by omega)]
  have := h.1.1
  exact ⟨_, List.getElem?_eq_getElem (by omega)⟩
theorem IR.free {ss : List ByteArray} {Z : List Value} {wr wj : World} {j : Nat} (h : IR ss Z wr wj j) (i : Nat) : wj.frozen? ⟨wr.heap.size, i, none⟩ = false := h.1.frozenAt i
theorem set1 (xs ys : List Value) (a : Value) (k : Nat) (h : xs.length = k) (h1 : 1 ≤ ys.length) : (xs ++ ys).set k a = xs ++ [a] ++ ys.drop 1 := by
  subst h
  match ys, h1 with
  | y0 :: r, _ => simp
theorem IR.next {ss : List ByteArray} {Z : List Value} {wr wj : World} {j : Nat} (h : IR ss Z wr wj j) (i : Nat) (hi : i < ss.length) (e : i = j := by rfl) : IR ss Z wr (wj.setCell ⟨wr.heap.size, i, none⟩ (.string ss[i])) (i + 1) := by
  subst e
  obtain ⟨h1, h2, h3⟩ := h
  refine ⟨?_, h2.setCell (p := ⟨wr.heap.size, i, none⟩) (Nat.le_refl _) _, h3⟩
  have k1 := (h1.stored i (.string ss[i])).1
  rw [set1 _ _ _ i (by rw [List.length_map, List.length_take]; omega) (by rw [List.length_drop]; omega), List.drop_drop] at k1
  rw [List.take_succ_eq_append_getElem hi, List.map_append]
  exact k1
theorem IR.done {ss : List ByteArray} {Z : List Value} {wr wj : World} {j lo : Nat} (h : IR ss Z wr wj j) (hj : j = ss.length) (hlo : lo ≤ wr.heap.size) : QN lo wj (.slice (some ⟨wr.heap.size, 0, none⟩) ss.length ss.length) (some ss) := by
  subst hj
  obtain ⟨h1, h2, h3⟩ := h
  rw [List.take_length, List.drop_of_length_le (by omega), List.append_nil] at h1
  refine .inr ⟨ss, _, _, rfl, rfl, hlo, fun i hi => ?_⟩
  rw [add_lit, Nat.zero_add, h1.cellAt i (by omega)]
  simp [hi]

set_option maxHeartbeats 4000000 in
/-- 'zzCloneB1'. -/
theorem clone_walk (A : List WA) (b off : Nat) (cap : Nat) (hlen : A.length ≤ 4096) (hq : ∀ a ∈ A, ∀ ss, a.2.1 = some ss → ss.length ≤ 65536) (w : World) (hA : WsAt w b off A) :
    Calls Try.prog 7 #[.slice (some ⟨b, off, none⟩) A.length cap] w fun e w' => e = .returned (.slice (some ⟨w.heap.size, 0, none⟩) A.length A.length) ∧ WsAt w' w.heap.size 0 A ∧ Below w.heap.size w w' := by
  have ke := fun (wx : World) (a : Option Addr) (n c : Nat) => Lib.run_eql_slice_nil (P := Try.prog) wx 22 33 a n c 0 0 Try.underlying22
  have kn := fun (wx : World) (a : Option Addr) (n c : Nat) => run_neq_slice_nil_any (P := Try.prog) wx 26 9 a n c 0 0 Try.underlying26
  obtain ⟨i0, hi, hz0, hz1, hz2⟩ := info_parts Try.info33
  obtain ⟨i9, hi9, hz90, hz91, hz92⟩ := info_parts Try.info9
  obtain ⟨wm, hmk, hown0, hgr0⟩ := run_make_full (P := Try.prog) w w.heap.size 22 33 i0 _ 5 Try.underlying22 hi hz0 hz1 .i64 .i64 A.length (by rw [hz2]; omega) (by unfold maxLen; omega) (Nat.le_refl _)
  have hbel0 : Below w.heap.size w wm := (Below.refl _ _).grown hgr0 (Nat.le_refl _) (by intro k h; cases h)
  have hzl : (madeCells (Value.agg #[.string ⟨#[]⟩, .slice none 0 0, .string ⟨#[]⟩, .int .i64 0, .bool false]).cells (A.length * 5)).toList.length = A.length * 5 := by rw [Array.length_toList, size_madeCells]
  generalize (madeCells (Value.agg #[.string ⟨#[]⟩, .slice none 0 0, .string ⟨#[]⟩, .int .i64 0, .bool false]).cells (A.length * 5)).toList = Z at *
  have hltm := (hown0.lt w.heap.size rfl).2
  have HCR : Hid (CR A Z w wm []) := hid_mk ⟨by simp, fun j h => by simp at h, by simpa [cls] using hown0, hbel0, hzl, hltm⟩
  have HA := hid_mk hA
  have HQ := hid_mk hq
  obtain ⟨g, HG⟩ : ∃ g, Hid (w.heap.size = g) := ⟨_, rfl⟩
  rw [HG.out] at hmk ⊢
  clear hown0 hgr0 hbel0 hzl hltm hA hq
  go_enter Try.func7, Try.ntmps7
  go_wp2
  go_loopw [4] (fun vi wr => ∃ vs : List Value, Hid (CR A Z w wr vs) ∧ vs.length ≤ A.length ∧ vi = .int .i64 (vs.length : Int)) (fun vi _ => A.length - (intOf vi).toNat)
  case atStart => exact ⟨[], HCR, by simp, rfl⟩
  case round =>
    rename World => wo
    obtain ⟨vs, hcr, hvl, rfl⟩ := hrel
    clear hmk
    by_cases hlt : vs.length < A.length
    · have hbel := hcr.out.2.2.2.1
      obtain ⟨c0, ⟨v, c1, hqv⟩, c2, c3, c4⟩ := (HA.out.stays hbel) vs.length hlt
      obtain ⟨o0, g0⟩ := hcr.out.cell (vs.length * 5) (by omega)
      obtain ⟨o1, g1⟩ := hcr.out.cell (vs.length * 5 + 1) (by omega)
      obtain ⟨o2, g2⟩ := hcr.out.cell (vs.length * 5 + 2) (by omega)
      obtain ⟨o3, g3⟩ := hcr.out.cell (vs.length * 5 + 3) (by omega)
      obtain ⟨o4, g4⟩ := hcr.out.cell (vs.length * 5 + 4) (by omega)
      have f0 := hcr.out.free (vs.length * 5)
      have f1 := hcr.out.free (vs.length * 5 + 1)
      have f2 := hcr.out.free (vs.length * 5 + 2)
      have f3 := hcr.out.free (vs.length * 5 + 3)
      have f4 := hcr.out.free (vs.length * 5 + 4)
      rw [HG.out] at g0 g1 g2 g3 g4 f0 f1 f2 f3 f4
      have hnx := fun wj q v => CR.next (wj := wj) hcr.out hlt q v
      have hql := HQ.out A[vs.length] (List.getElem_mem hlt)
      rw [HG.out] at hnx
      have HNX := hid_mk hnx
      clear hnx hbel
      have hbg : b ≠ g := by have := World.block_lt_of_cell? w _ (HA.out vs.length hlt).1; have h2 := HG.out; simp only at this; omega
      generalize hAk : A[vs.length] = a at *
      obtain ⟨nm, oq, st, ttl, rg⟩ := a
      simp only at c0 c1 c2 c3 c4 hqv hql
      rcases hqv with ⟨hoq, hv⟩ | ⟨ss, qa, qc, hoq, hv, hcs⟩
      · subst hoq hv
        clear hql
        have HN := hid_mk (HNX.out wo 1 (.slice none 0 0) (Below.refl _ _) (.inl ⟨rfl, rfl⟩))
        go_wp2
        go_region
        go_wp2
        go_roundw
        case rel => exact ⟨vs ++ [.slice none 0 0], by rw [← put5_drew] at HN; exact HN, by simp; omega, by simp⟩
        case measure => simp [intOf]; omega
      · subst hoq hv
        have hl := hql ss rfl
        obtain ⟨wn, hmk2, hown2, hgr2⟩ := run_make_full (P := Try.prog) wo wo.heap.size 26 9 i9 _ 1 Try.underlying26 hi9 hz90 hz91 .i64 .i64 ss.length (by rw [hz92]; omega) (by unfold maxLen; omega) (Nat.le_refl _)
        have hbel2 : Below wo.heap.size wo wn := (Below.refl _ _).grown hgr2 (Nat.le_refl _) (by intro k h; cases h)
        have hzl2 : (madeCells (Value.string ⟨#[]⟩).cells (ss.length * 1)).toList.length = ss.length := by rw [Array.length_toList, size_madeCells]; omega
        generalize (madeCells (Value.string ⟨#[]⟩).cells (ss.length * 1)).toList = Z2 at *
        have HO2 := hid_mk hown2; have HB2 := hid_mk hbel2; have HZ2 := hid_mk hzl2; have HCS := hid_mk hcs
        clear hown2 hbel2 hzl2 hgr2 hql hcs
        have HRG : Hid (g < wo.heap.size) := hid_mk (by have := hcr.out.2.2.2.2.2; have h2 := HG.out; omega)
        obtain ⟨h, HH⟩ : ∃ h, Hid (wo.heap.size = h) := ⟨_, rfl⟩
        rw [HH.out] at hmk2
        go_wp2
        go_loopw [6] (fun vj wj => ∃ j : Nat, j ≤ ss.length ∧ vj = .int .i64 (j : Int) ∧ Hid (IR ss Z2 wo wj j)) (fun vj _ => ss.length - (intOf vj).toNat)
        case atStart => exact ⟨0, by omega, rfl, hid_mk ⟨by simpa using HO2.out, HB2.out, HZ2.out⟩⟩
        case round =>
          obtain ⟨j, hj, rfl, hir⟩ := hrel
          clear hmk2
          have hbj := hir.out.2.1
          have d1 := cell_stays c1 hbj
          by_cases hjl : j < ss.length
          · have d2 := cell_stays (HCS.out j hjl) hbj
            obtain ⟨d3v, d3⟩ := hir.out.cell j hjl
            have d4 := hir.out.free j
            rw [HH.out] at d3 d4
            have hin := hir.out.next j hjl
            rw [HH.out] at hin
            have HIN := hid_mk hin
            clear hbj hin
            generalize hsj : ss[j] = sj at *
            go_wp2
            go_roundw
            case rel => exact ⟨j + 1, by omega, by go_num, HIN⟩
            case measure => simp [intOf]; omega
          · have hje : j = ss.length := by omega
            have hqn := hir.out.done hje (show g + 1 ≤ wo.heap.size from HRG.out)
            have e0 := cell_stays c0 hbj
            have e2 := cell_stays c2 hbj
            have e3 := cell_stays c3 hbj
            have e4 := cell_stays c4 hbj
            have k0 := cell_stays g0 hbj
            have k1 := cell_stays g1 hbj
            have k2 := cell_stays g2 hbj
            have k3 := cell_stays g3 hbj
            have k4 := cell_stays g4 hbj
            have l0 := (hbj.frozen (p := ⟨g, vs.length * 5, none⟩) HRG.out).trans f0
            have l1 := (hbj.frozen (p := ⟨g, vs.length * 5 + 1, none⟩) HRG.out).trans f1
            have l2 := (hbj.frozen (p := ⟨g, vs.length * 5 + 2, none⟩) HRG.out).trans f2
            have l3 := (hbj.frozen (p := ⟨g, vs.length * 5 + 3, none⟩) HRG.out).trans f3
            have l4 := (hbj.frozen (p := ⟨g, vs.length * 5 + 4, none⟩) HRG.out).trans f4
            have HN := hid_mk (HNX.out wr 1 _ hbj hqn)
            rw [HH.out] at HN
            clear hqn hbj c0 c2 c3 c4 g0 g1 g2 g3 g4 f0 f1 f2 f3 f4
            go_wp2
            go_region
            go_wp2
            go_roundw
            case rel => exact ⟨vs ++ [.slice (some ⟨h, 0, none⟩) ss.length ss.length], by rw [← put5_drew] at HN; exact HN, by simp; omega, by simp⟩
            case measure => simp [intOf]; omega
    · have hle : vs.length = A.length := by omega
      have HD := hid_mk (hcr.out.done hle)
      go_wp2
      go_ret
      exact ⟨rfl, by rw [← HG.out]; exact HD.out, by rw [← HG.out]; exact hcr.out.2.2.2.1⟩
end Go.Proofs.Qxb6630079a
