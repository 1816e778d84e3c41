import Derived.Test.Qxb6630079aCloneWalk
import Derived.Deep.RegionHeld3
namespace Go.Proofs.Qxb6630079a
open Go.RowKit

/-- A worker's block; the queue's strings are read in the world w0. -/
def WkAt (w0 w : World) (p : Nat) (a : WA) : Prop :=
  w.cell? ⟨p, 0, none⟩ = some (.string a.1) ∧ (∃ v, w.cell? ⟨p, 1, none⟩ = some v ∧ Q w0 v a.2.1) ∧ w.cell? ⟨p, 2, none⟩ = some (.string a.2.2.1) ∧ w.cell? ⟨p, 3, none⟩ = some (.int .i64 a.2.2.2.1) ∧ w.cell? ⟨p, 8, none⟩ = some (.bool a.2.2.2.2)
theorem WkAt.block {w0 w w' : World} {p : Nat} {a : WA} (h : WkAt w0 w p a) (hb : w'.heap[p]? = w.heap[p]?) : WkAt w0 w' p a := by
  obtain ⟨h1, ⟨v, h2, h3⟩, h4, h5, h6⟩ := h
  have hc : ∀ j, w'.cell? ⟨p, j, none⟩ = w.cell? ⟨p, j, none⟩ := fun j => World.cell?_of_block (a := ⟨p, j, none⟩) hb
  exact ⟨(hc 0).trans h1, ⟨v, (hc 1).trans h2, h3⟩, (hc 2).trans h4, (hc 3).trans h5, (hc 8).trans h6⟩
theorem WkAt.lt {w0 w : World} {p : Nat} {a : WA} (h : WkAt w0 w p a) : p < w.heap.size := World.block_lt_of_cell? w _ h.1
theorem WkAt.new (w0 w : World) (a : WA) (v e1 e2 e3 e4 : Value) (h : Q w0 v a.2.1) : WkAt w0 (w.alloc (.cells #[.string a.1, v, .string a.2.2.1, .int .i64 a.2.2.2.1, e1, e2, e3, e4, .bool a.2.2.2.2] 48)) w.heap.size a := by
  unfold WkAt
  simp only [World.cell?, heap_alloc_new]
  simp [h]
theorem WkAt.stays {w0 w w' : World} {p : Nat} {a : WA} (h : WkAt w0 w p a) (hq : Below w0.heap.size w0 w') (hb : Below w.heap.size w w') : WkAt w' w' p a := by
  obtain ⟨h1, ⟨v, h2, h3⟩, h4, h5, h6⟩ := h
  exact ⟨cell_stays h1 hb, ⟨v, cell_stays h2 hb, h3.stays hq⟩, cell_stays h4 hb, cell_stays h5 hb, cell_stays h6 hb⟩

def ptrs (ps : List Nat) : List Value := ps.map fun p => Value.pointer (some ⟨p, 0, none⟩)
/-- A row of pointers to workers. -/
def PsAt (w : World) (g : Nat) (ps : List Nat) (A : List WA) : Prop :=
  ps.length = A.length ∧ ∀ j (h : j < A.length) (h' : j < ps.length), w.cell? ⟨g, j, none⟩ = some (.pointer (some ⟨ps[j], 0, none⟩)) ∧ WkAt w w ps[j] A[j]

/-- The state of zzBuild's loop. -/
def BR (A : List WA) (Z : List Value) (w wr : World) (ps : List Nat) : Prop :=
  ps.length ≤ A.length ∧ (∀ j (h : j < ps.length) (h' : j < A.length), w.heap.size + 1 ≤ ps[j] ∧ WkAt w wr ps[j] A[j]) ∧ wr.ownsRow w.heap.size 39 1 (.slice (some ⟨w.heap.size, 0, none⟩) A.length A.length) A.length (ptrs ps ++ Z.drop ps.length) ∧ Below w.heap.size w wr ∧ Z.length = A.length ∧ w.heap.size < wr.heap.size
theorem BR.next {A : List WA} {Z : List Value} {w wr : World} {ps : List Nat} (h : BR A Z w wr ps) (hlt : ps.length < A.length) (v e1 e2 e3 e4 : Value) (hv : Q w v A[ps.length].2.1) :
    BR A Z w (((wr.drewN 1).alloc (.cells #[.string A[ps.length].1, v, .string A[ps.length].2.2.1, .int .i64 A[ps.length].2.2.2.1, e1, e2, e3, e4, .bool A[ps.length].2.2.2.2] 48)).setCell ⟨w.heap.size, ps.length, none⟩ (.pointer (some ⟨wr.heap.size, 0, none⟩))) (ps ++ [wr.heap.size]) := by
  obtain ⟨h1, h2, h3, h4, h5, h6⟩ := h
  have hnew := WkAt.new w (wr.drewN 1) A[ps.length] v e1 e2 e3 e4 hv
  have hba : Below wr.heap.size wr ((wr.drewN 1).alloc (.cells #[.string A[ps.length].1, v, .string A[ps.length].2.2.1, .int .i64 A[ps.length].2.2.2.1, e1, e2, e3, e4, .bool A[ps.length].2.2.2.2] 48)) := (below_drewN (Below.refl _ _) 1).alloc (Nat.le_refl _) _
  have hsa : ((wr.drewN 1).alloc (.cells #[.string A[ps.length].1, v, .string A[ps.length].2.2.1, .int .i64 A[ps.length].2.2.2.1, e1, e2, e3, e4, .bool A[ps.length].2.2.2.2] 48)).heap.size = wr.heap.size + 1 := by simp
  generalize (wr.drewN 1).alloc (.cells #[.string A[ps.length].1, v, .string A[ps.length].2.2.1, .int .i64 A[ps.length].2.2.2.1, e1, e2, e3, e4, .bool A[ps.length].2.2.2.2] 48) = wa at *
  have hoth : ∀ k, k ≠ w.heap.size → (wa.setCell ⟨w.heap.size, ps.length, none⟩ (.pointer (some ⟨wr.heap.size, 0, none⟩))).heap[k]? = wa.heap[k]? := fun k hk => Below.heap_setCell _ _ _ _ hk
  refine ⟨by simp; omega, fun j hj1 hj2 => ?_, ?_, ?_, h5, ?_⟩
  · rcases Nat.lt_or_ge j ps.length with hl | hl
    · rw [List.getElem_append_left hl]
      obtain ⟨a1, a2⟩ := h2 j hl hj2
      exact ⟨a1, a2.block ((hoth _ (by omega)).trans (hba.block _ a2.lt))⟩
    · have e : j = ps.length := by simp at hj1; omega
      subst e
      rw [List.getElem_append_right (Nat.le_refl _)]
      simp only [Nat.sub_self, List.getElem_cons_zero]
      exact ⟨by omega, hnew.block (hoth _ (by simp; omega))⟩
  · have hk : wa.ownsRow w.heap.size 39 1 (.slice (some ⟨w.heap.size, 0, none⟩) A.length A.length) A.length (ptrs ps ++ Z.drop ps.length) := by
      refine h3.kept (row := none) ⟨hba.os, hba.tape, hba.output, hba.size, fun k hk _ => hba.block k hk⟩ ?_
      right; simp [Value.ownBlock]
    have k1 := (hk.stored ps.length (.pointer (some ⟨wr.heap.size, 0, none⟩))).1
    rw [set1 _ _ _ ps.length (by simp [ptrs]) (by rw [List.length_drop]; omega), List.drop_drop] at k1
    rw [List.length_append]
    simpa [ptrs] using k1
  · exact h4.trans ((hba.mono (by omega)).trans ((Below.refl _ _).setCell (p := ⟨w.heap.size, ps.length, none⟩) (Nat.le_refl _) _))
  · simp [World.setCell, hsa]; omega
theorem BR.cell {A : List WA} {Z : List Value} {w wr : World} {ps : List Nat} (h : BR A Z w wr ps) (j : Nat) (hj : j < A.length) : ∃ c, wr.cell? ⟨w.heap.size, j, none⟩ = some c := by
  have h1 := h.2.2.1
  rw [h1.cellAt j (by omega)]
  have := h1.1
  exact ⟨_, List.getElem?_eq_getElem (by omega)⟩
theorem BR.free {A : List WA} {Z : List Value} {w wr : World} {ps : List Nat} (h : BR A Z w wr ps) (j : Nat) : wr.frozen? ⟨w.heap.size, j, none⟩ = false := h.2.2.1.frozenAt j
theorem BR.done {A : List WA} {Z : List Value} {w wr : World} {ps : List Nat} (h : BR A Z w wr ps) (hl : ps.length = A.length) : PsAt wr w.heap.size ps A := by
  obtain ⟨h1, h2, h3, h4, h5, h6⟩ := h
  rw [List.drop_of_length_le (by omega), List.append_nil] at h3
  refine ⟨hl, fun j hj hj' => ⟨?_, (h2 j hj' hj).2.stays h4 (Below.refl _ _)⟩⟩
  rw [h3.cellAt _ (by omega)]
  simp [ptrs, hj']

set_option maxHeartbeats 1000000 in
theorem build_nil (w : World) : Calls Try.prog 9 #[.slice none 0 0] w fun e w' => e = .returned (.slice none 0 0) ∧ w' = w := by
  have ke := fun (wx : World) (a : Option Addr) (n c : Nat) => Lib.run_eql_slice_nil (P := Try.prog) wx 22 33 a n c 0 0 Try.underlying22
  go_enter Try.func9, Try.ntmps9
  go_wp2
  go_ret
  exact ⟨rfl, rfl⟩
theorem bw (w : World) (o : Obj) (g i : Nat) (v : Value) (hg : g < w.heap.size) : ((w.drewN 1).alloc o).setCell ⟨g, i, none⟩ v = ((w.setCell ⟨g, i, none⟩ v).alloc o).drew := by
  rw [World.setCell_alloc_past (w := w.drewN 1) o g i v (by simpa using hg)]; rfl
set_option maxHeartbeats 4000000 in
/-- 'zzBuildB1'. -/
theorem build_walk (A : List WA) (b cap : Nat) (hlen : A.length ≤ 4096) (w : World) (hA : WsAt w b 0 A) :
    Calls Try.prog 9 #[.slice (some ⟨b, 0, none⟩) A.length cap] w fun e w' => e = .returned (.slice (some ⟨w.heap.size, 0, none⟩) A.length A.length) ∧ (∃ ps, PsAt w' w.heap.size ps A) ∧ Below w.heap.size w w' := by
  have ke := fun (wx : World) (a : Option Addr) (n c : Nat) => Lib.run_eql_slice_nil (P := Try.prog) wx 22 33 a n c 0 0 Try.underlying22
  obtain ⟨i0, hi, hz0, hz1, hz2⟩ := info_parts Try.info39
  obtain ⟨wm, hmk, hown0, hgr0⟩ := run_make_full (P := Try.prog) w w.heap.size 29 39 i0 _ 1 Try.underlying29 hi hz0 hz1 .i64 .i64 A.length (by rw [hz2]; omega) (by unfold maxLen; omega) (Nat.le_refl _)
  have hbel0 : Below w.heap.size w wm := (Below.refl _ _).grown hgr0 (Nat.le_refl _) (by intro k h; cases h)
  have hzl : (madeCells (Value.pointer none).cells (A.length * 1)).toList.length = A.length := by rw [Array.length_toList, size_madeCells]; omega
  generalize (madeCells (Value.pointer none).cells (A.length * 1)).toList = Z at *
  have hltm := (hown0.lt w.heap.size rfl).2
  have HBR : Hid (BR A Z w wm []) := hid_mk ⟨by simp, fun j h => by simp at h, by simpa [ptrs] using hown0, hbel0, hzl, hltm⟩
  have HA := hid_mk hA
  obtain ⟨g, HG⟩ : ∃ g, Hid (w.heap.size = g) := ⟨_, rfl⟩
  rw [HG.out] at hmk ⊢
  clear hown0 hgr0 hbel0 hzl hltm hA
  go_enter Try.func9, Try.ntmps9
  go_wp2
  go_loopw [4] (fun vi wr => ∃ ps : List Nat, Hid (BR A Z w wr ps) ∧ ps.length ≤ A.length ∧ vi = .int .i64 (ps.length : Int)) (fun vi _ => A.length - (intOf vi).toNat)
  case atStart => exact ⟨[], HBR, by simp, rfl⟩
  case round =>
    obtain ⟨ps, hbr, hvl, rfl⟩ := hrel
    clear hmk
    by_cases hlt : ps.length < A.length
    · have hbel := hbr.out.2.2.2.1
      obtain ⟨c0, ⟨v, c1, hqv⟩, c2, c3, c4⟩ := HA.out ps.length hlt
      obtain ⟨va, vn, vc, hv⟩ := hqv.shape
      subst hv
      have c0 := cell_stays c0 hbel; have c1 := cell_stays c1 hbel; have c2 := cell_stays c2 hbel; have c3 := cell_stays c3 hbel; have c4 := cell_stays c4 hbel
      rw [Nat.zero_add] at c0 c1 c2 c3 c4
      obtain ⟨o0, g0⟩ := hbr.out.cell ps.length hlt
      have f0 := hbr.out.free ps.length
      rw [HG.out] at g0 f0
      have hnx := fun e1 e2 e3 e4 => hbr.out.next hlt (.slice va vn vc) e1 e2 e3 e4 hqv
      rw [HG.out] at hnx
      have HNX := hid_mk hnx
      have hgw : g < wr.heap.size := World.block_lt_of_cell? wr _ g0
      have hbw : b < wr.heap.size := World.block_lt_of_cell? wr _ c0
      have hbg : b ≠ g := by have := World.block_lt_of_cell? w _ (HA.out ps.length hlt).1; have h2 := HG.out; simp only at this; omega
      have hca : ∀ o, (wr.alloc o).cell? ⟨g, ps.length, none⟩ = some o0 := fun o => (World.cell?_of_block (Below.heap_alloc wr o _ hgw)).trans g0
      have hfa : ∀ o, (wr.alloc o).frozen? ⟨g, ps.length, none⟩ = false := fun o => (World.frozen?_of_block (Below.heap_alloc wr o _ hgw)).trans f0
      have hst : ∀ t o u, ((wr.setCell ⟨g, ps.length, none⟩ u).alloc o).cell? ⟨b, t, none⟩ = wr.cell? ⟨b, t, none⟩ := fun t o u => (World.cell?_of_block (a := ⟨b, t, none⟩) (Below.heap_alloc _ o _ (by simpa [World.setCell] using hbw))).trans (World.cell?_of_block (a := ⟨b, t, none⟩) (Below.heap_setCell wr ⟨g, ps.length, none⟩ u b hbg))
      clear hnx hbel hqv
      generalize hAk : A[ps.length] = a at *
      obtain ⟨nm, oq, st, ttl, rg⟩ := a
      simp only at c0 c1 c2 c3 c4
      go_wp2
      go_region_held3 (fun w' => w'.cell? ⟨b, ps.length * 5, none⟩ = some (.string nm) ∧ w'.cell? ⟨b, ps.length * 5 + 1, none⟩ = some (.slice va vn vc) ∧ w'.cell? ⟨b, ps.length * 5 + 2, none⟩ = some (.string st) ∧ w'.cell? ⟨b, ps.length * 5 + 3, none⟩ = some (.int .i64 ttl) ∧ w'.cell? ⟨b, ps.length * 5 + 4, none⟩ = some (.bool rg)) (go_keep)
        (first
          | (go_at_call 14; refine (new_walk nm va vn vc st ttl rg _).mono ?_; rintro e w' ⟨rfl, e1, e2, e3, e4, rfl⟩))
      have HN := hid_mk (HNX.out e1 e2 e3 e4)
      rw [bw wr _ _ _ _ hgw] at HN
      go_wp2
      go_roundw
      case rel => exact ⟨ps ++ [wr.heap.size], HN, by simp; omega, by simp⟩
      case measure => simp [intOf]; omega
    · have hle : ps.length = A.length := by omega
      have HD := hid_mk (hbr.out.done hle)
      go_wp2
      go_ret
      exact ⟨rfl, ⟨ps, by rw [← HG.out]; exact HD.out⟩, by rw [← HG.out]; exact hbr.out.2.2.2.1⟩
end Go.Proofs.Qxb6630079a
