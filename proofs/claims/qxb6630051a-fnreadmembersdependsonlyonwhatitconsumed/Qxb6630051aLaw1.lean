import Derived.Test.Qxb6630051aSame
import Derived.Laws.CopyOwn
import Derived.Lib.SliceRun
import Derived.Deep.DeepMust
namespace Go.Proofs.Qxb6630051a
open Go.RowKit

theorem Try.info5 : (Try.prog.info? 5).map (fun i => (i.zero, i.size, i.bytes)) = some (some (.int .u8 0), 1, 1) := by kernel_rfl
theorem Try.size5' : (Try.prog.info? 5).map (·.size) = some 1 := by kernel_rfl

/-- Numbers as cells of bytes. -/
def cellsN (l : List Nat) : List Value := l.map fun c : Nat => Value.int .u8 (c : Int)
theorem cellsN_len (l : List Nat) : (cellsN l).length = l.length := by simp [cellsN]
theorem row_of {w : World} {g : Nat} {l : List Nat} (hb : ∀ c ∈ l, c < 256) (h : w.heap[g]? = some (.cells (cellsN l).toArray 5 (0, 0))) : Row w g 0 l := by
  refine ⟨fun j => ?_, fun j hj => ?_⟩
  · rcases Nat.lt_or_ge j l.length with h | h
    · rw [List.getD, List.getElem?_eq_getElem h]; exact hb _ (List.getElem_mem h)
    · rw [List.getD, List.getElem?_eq_none h]; decide
  · simp only [World.cell?, h]
    simp [cellsN, List.getD, hj]
theorem splice_all (Z cs : List Value) (h : Z.length = cs.length) : splice Z 0 cs = cs := by
  simp [splice, h]

set_option maxRecDepth 100000 in
set_option maxHeartbeats 1000000 in
theorem law1_nil (w : World) : Calls Try.prog 3 #[.slice none 0 0] w fun e w' => e = .returned (.bool true) ∧ Below w.heap.size w w' := by
  have kn := fun (wx : World) (a : Option Addr) (n c : Nat) => run_neq_slice_nil_any (P := Try.prog) wx 22 5 a n c 0 0 Try.underlying22
  have ke := fun (wx : World) (a : Option Addr) (n c : Nat) => Lib.run_eql_slice_nil (P := Try.prog) wx 22 5 a n c 0 0 Try.underlying22
  have ke2 := fun (wx : World) (a : Option Addr) (n c : Nat) => Lib.run_eql_slice_nil (P := Try.prog) wx 24 37 a n c 0 0 Try.underlying24
  go_enter Try.func3, Try.ntmps3
  go_wp2_with (first
    | (go_at_call 5; refine (bound1_yes none 0 0 (by omega) _).mono ?_; rintro e w' ⟨rfl, h'⟩; have h'' := h'.symm; clear h'; subst h'')
    | (go_at_call 6; refine (model_nil _).mono ?_; rintro e w' ⟨rfl, h'⟩; have h'' := h'.symm; clear h'; subst h'')
    | (go_at_call 7; refine (read_nil _).mono ?_; rintro e w' ⟨⟨a, rfl⟩, hb⟩))
  go_ret
  exact ⟨rfl, hb⟩

set_option maxRecDepth 100000 in
set_option maxHeartbeats 1000000 in
theorem law1_big (a : Option Addr) (len cap : Nat) (h : 1048576 < len) (hm : len ≤ maxLen) (w : World) : Calls Try.prog 3 #[.slice a len cap] w fun e w' => e = .returned (.bool true) ∧ Below w.heap.size w w' := by
  go_enter Try.func3, Try.ntmps3
  go_wp2_with (go_at_call 5; refine (bound1_no a len cap h hm _).mono ?_; rintro e w' ⟨rfl, h'⟩; have h'' := h'.symm; clear h'; subst h'')
  go_ret
  exact ⟨rfl, Below.refl _ _⟩

theorem copy_src {w : World} {x : Addr} {l : List Nat} (hx : ∀ j, j < l.length → w.cell? (x.add j) = some (.int .u8 (l.getD j 0 : Nat))) {o : Obj} : ∀ j v, (cellsN l)[j]? = some v → (w.alloc o).cell? (x.add j) = some v := by
  intro j v hj
  have hlt : j < l.length := by
    rcases Nat.lt_or_ge j l.length with h | h
    · exact h
    · rw [List.getElem?_eq_none (by rw [cellsN_len]; exact h)] at hj; cases hj
  have h1 := hx j hlt
  have h2 : v = .int .u8 (l.getD j 0 : Nat) := by
    simp [cellsN, hlt] at hj
    rw [← hj]; simp [List.getD, hlt]
  rw [h2, ← h1]
  exact World.cell?_of_block (Below.heap_alloc w o _ (World.block_lt_of_cell? w _ h1))

set_option maxRecDepth 100000 in
set_option maxHeartbeats 4000000 in
theorem law1_some (l : List Nat) (x : Addr) (cap : Nat) (hlen : l.length ≤ 1048576) (hb256 : ∀ c ∈ l, c < 256) (w : World) (hx : ∀ j, j < l.length → w.cell? (x.add j) = some (.int .u8 (l.getD j 0 : Nat))) :
    Calls Try.prog 3 #[.slice (some x) l.length cap] w fun e w' => e = .returned (.bool true) ∧ Below w.heap.size w w' := by
  obtain ⟨i0, hi, hz0, hz1, hz2⟩ := info_parts Try.info5
  have kn := fun (wx : World) (a : Option Addr) (n c : Nat) => run_neq_slice_nil_any (P := Try.prog) wx 22 5 a n c 0 0 Try.underlying22
  have ke := fun (wx : World) (a : Option Addr) (n c : Nat) => Lib.run_eql_slice_nil (P := Try.prog) wx 22 5 a n c 0 0 Try.underlying22
  have ke2 := fun (wx : World) (a : Option Addr) (n c : Nat) => Lib.run_eql_slice_nil (P := Try.prog) wx 24 37 a n c 0 0 Try.underlying24
  have hmk := run_make (P := Try.prog) w 22 5 i0 (.int .u8 0) Try.underlying22 hi hz0 .i64 .i64 (l.length : Int) (l.length : Int) (by omega) (by omega) (by rw [hz2]; omega) (by omega)
  rw [Int.toNat_natCast, hz1, Nat.mul_one] at hmk
  have hzl : (madeCells (Value.int .u8 0).cells l.length).toList.length = l.length := by rw [Array.length_toList, size_madeCells]
  obtain ⟨Z, hZ⟩ : ∃ Z : List Value, (madeCells (Value.int .u8 0).cells l.length) = Z.toArray := ⟨_, (Array.toArray_toList).symm⟩
  rw [hZ] at hmk hzl
  have hzl : Z.length = l.length := hzl
  clear hZ
  have HX := hid_mk hx
  have HZL := hid_mk hzl
  clear hx hzl
  go_enter Try.func3, Try.ntmps3
  go_wp2_with (first
    | (go_at_call 5; refine (bound1_yes (some x) l.length cap hlen _).mono ?_; rintro e w' ⟨rfl, h'⟩; have h'' := h'.symm; clear h'; subst h'')
    | (refine wpList_copy_splice rfl (.tmp 22) (.tmp 23) 22 22 rfl 5 Try.underlying22 Try.size5' _ _ _ _ _ _ rfl rfl w.heap.size 0 Z 5 ?g1 (cellsN l) ?g2 ?g3 ?g4 ?g5 w.heap.size w ?g6 (Nat.le_refl _) ?g7))
  case g1 => exact heap_alloc_new w _
  case g2 => rw [cellsN_len]; exact (Nat.min_self _).symm
  case g3 => exact fun _ => copy_src HX.out
  case g4 => rw [cellsN_len, HZL.out]; omega
  case g5 => intro v hv; obtain ⟨c, _, rfl⟩ := List.mem_map.1 hv; rfl
  case g6 => exact (Below.refl _ _).alloc (Nat.le_refl _) _
  case g7 =>
  intro w2 HH hb2
  have hrow : Row w2 w.heap.size 0 l := row_of hb256 (by have := HH.out; rw [splice_all _ _ (by rw [cellsN_len, HZL.out])] at this; exact this)
  have hlt2 : w.heap.size < w2.heap.size := by
    have := HH.out
    rcases Nat.lt_or_ge w.heap.size w2.heap.size with h | h
    · exact h
    · rw [Array.getElem?_eq_none h] at this; cases this
  have hm := model_walk l w.heap.size 0 l.length w2 hrow hlen (Nat.le_refl _) hlt2
  have HM := hid_mk hm
  have HROW := hid_mk hrow
  clear hm hrow hmk HH HZL HX
  generalize hg : w.heap.size = g at *
  have HG := hid_mk hg
  clear hg
  go_wp2_with fail
  refine HM.out.mono ?_
  rintro e w3 ⟨hb3, hM⟩
  have hsz3 := hb3.size
  have hrow3 := HROW.out.below hb3 hlt2
  have hr := read_walk l g 0 l.length w3 hrow3 hlen (Nat.le_refl _) (by omega)
  have HR := hid_mk hr
  have HROW3 := hid_mk hrow3
  clear hr hrow3 HM HROW
  rcases hM with ⟨ms, k, v, hrm, rfl, hown⟩ | ⟨hrm, rfl⟩
  · have hkb := rm_bd hrm
    have HRM := hid_mk hrm
    obtain ⟨va, vc, hv⟩ := own_shape hown
    subst hv
    clear hrm
    go_wp2_with fail
    refine HR.out.mono ?_
    rintro e w4 ⟨hb4, hRd⟩
    rcases hRd with ⟨ms', k', v', o, hrm', rfl, hrow4, hown', hnil, hsome⟩ | ⟨hrm', _⟩
    · have heq := HRM.out.symm.trans hrm'
      simp only [Option.some.injEq, Prod.mk.injEq] at heq
      obtain ⟨rfl, rfl⟩ := heq
      have hsz4 := hb4.size
      have HROW4 := hid_mk hrow4
      have HB := hid_mk (hb2.trans ((hb3.mono (by omega)).trans (hb4.mono (by omega))))
      have hdiff : (((l.length - k : Nat) : Int) != (l.length : Int) - (k : Int)) = false := by
        rw [bne, Bool.not_eq_false', beq_iff_eq]; omega
      by_cases hms : ms = []
      · subst hms
        have hv' := hnil rfl
        subst hv'
        clear hrm' hown hown' hnil hsome hrow4
        go_wp2_with fail
        refine (same_zero _ _ _ _ _).mono ?_
        rintro e w5 ⟨rfl, h'⟩; have h'' := h'.symm; clear h'; subst h''
        go_wp2
        go_loopw [71] (fun i wr => ∃ j : Nat, j ≤ l.length - k ∧ i = .int .i64 j ∧ (∃ q, Hid (wr = w4.drewN q))) (fun i _ => (l.length - k) - (intOf i).toNat)
        case atStart => exact ⟨0, by omega, rfl, 0, hid_mk rfl⟩
        case round =>
          obtain ⟨j, hj, rfl, q, HW⟩ := hrel
          have hw := HW.out
          subst hw
          by_cases hlt : j < l.length - k
          · have a1 : w4.cell? ⟨g, o + j, none⟩ = some (.int .u8 (l.getD (k + j) 0 : Nat)) := by
              have := HROW4.out.2 j (by rw [List.length_drop]; exact hlt)
              rw [drop_getD] at this; exact this
            have a2 : w4.cell? ⟨g, k + j, none⟩ = some (.int .u8 (l.getD (k + j) 0 : Nat)) := by
              have := (HROW3.out.below hb4 (by omega)).2 (k + j) (by omega)
              rw [Nat.zero_add] at this; exact this
            generalize l.getD (k + j) 0 = y at *
            have ht : ((k : Int) + j).toNat = k + j := by omega
            go_wp2
            go_quiet (fail)
            go_wp2
            go_roundw
            case rel => exact ⟨j + 1, by omega, by go_num, _, hid_mk rfl⟩
            case measure => simp [intOf]; omega
          · go_wp2
            go_ret
            exact ⟨rfl, by rw [HG.out]; exact below_drewN HB.out _⟩
      · obtain ⟨g1, c1, hv'⟩ := hsome hms
        subst hv'
        have hl0 : ((ms.length : Int) == 0) = false := beq_eq_false_iff_ne.2 (by have := List.length_pos_iff.2 hms; omega)
        rcases hown.2 with ⟨_, h0⟩ | ⟨g2, cap2, cur, hv2, _⟩
        · exact absurd (List.eq_nil_of_length_eq_zero h0) hms
        · injection hv2 with hv2 _ hv3
          subst hv2 hv3
          have hm1 := MRow.of hown'
          have hm2 := (MRow.of hown).below hb4 (hown.lt g2 rfl).2
          have hsm := same_walk ms g1 g2 c1 vc (by omega) w4 hm1 hm2
          have HSM := hid_mk hsm
          clear hrm' hown hown' hnil hsome hrow4 hm1 hm2 hsm
          go_wp2_with fail
          refine HSM.out.mono ?_
          rintro e w5 ⟨rfl, q5, rfl⟩
          go_wp2
          go_loopw [71] (fun i wr => ∃ j : Nat, j ≤ l.length - k ∧ i = .int .i64 j ∧ (∃ q, Hid (wr = w4.drewN q))) (fun i _ => (l.length - k) - (intOf i).toNat)
          case atStart => exact ⟨0, by omega, rfl, q5, hid_mk rfl⟩
          case round =>
            obtain ⟨j, hj, rfl, q, HW⟩ := hrel
            have hw := HW.out
            subst hw
            by_cases hlt : j < l.length - k
            · have a1 : w4.cell? ⟨g, o + j, none⟩ = some (.int .u8 (l.getD (k + j) 0 : Nat)) := by
                have := HROW4.out.2 j (by rw [List.length_drop]; exact hlt)
                rw [drop_getD] at this; exact this
              have a2 : w4.cell? ⟨g, k + j, none⟩ = some (.int .u8 (l.getD (k + j) 0 : Nat)) := by
                have := (HROW3.out.below hb4 (by omega)).2 (k + j) (by omega)
                rw [Nat.zero_add] at this; exact this
              generalize l.getD (k + j) 0 = y at *
              have ht : ((k : Int) + j).toNat = k + j := by omega
              go_wp2
              go_quiet (fail)
              go_wp2
              go_roundw
              case rel => exact ⟨j + 1, by omega, by go_num, _, hid_mk rfl⟩
              case measure => simp [intOf]; omega
            · go_wp2
              go_ret
              exact ⟨rfl, by rw [HG.out]; exact below_drewN HB.out _⟩
    · rw [HRM.out] at hrm'; cases hrm'
  · have HRM := hid_mk hrm
    clear hrm
    go_wp2_with fail
    refine HR.out.mono ?_
    rintro e w4 ⟨hb4, hRd⟩
    rcases hRd with ⟨ms', k', v', o, hrm', _⟩ | ⟨_, a, rfl⟩
    · rw [HRM.out] at hrm'; cases hrm'
    · go_wp2
      go_ret
      have hsz4 := hb4.size
      exact ⟨rfl, by rw [HG.out]; exact hb2.trans ((hb3.mono (by omega)).trans (hb4.mono (by omega)))⟩
end Go.Proofs.Qxb6630051a
