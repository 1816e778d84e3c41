import Derived.Test.Qxb6630051aLaw1
import Derived.Test.Qxb6630051aLocal
namespace Go.Proofs.Qxb6630051a
open Go.RowKit

/-- 'b[:k]' where there is room. -/
theorem slice_head (B len cap k : Nat) (hk : k ≤ cap) (w : World) : (Instr.slice 22 (.slice (some ⟨B, 0, none⟩) len cap) none (some (.int .i64 (k : Int))) none).run Try.prog w = .ok (.slice (some ⟨B, 0, none⟩) k cap) w := by
  rw [run_slice_h w 22 (some ⟨B, 0, none⟩) len cap Try.underlying22 .i64 (k : Int) (by omega) (by omega), size5 w]
  show Result.ok (sliced _ _ _ _ _) w = _
  have e2 : ((k : Int)).toNat = k := by omega
  rw [e2]
  unfold sliced
  by_cases h : cap = 0
  · rw [if_pos h, Nat.sub_zero, Nat.sub_zero]
  · rw [if_neg h]; simp [add_lit]
/-- 'joined[k:]'. -/
theorem slice_tail (B n k : Nat) : ∃ o, (∀ w : World, (Instr.slice 22 (.slice (some ⟨B, 0, none⟩) (k + n) (k + n)) (some (.int .i64 (k : Int))) none none).run Try.prog w = .ok (.slice (some ⟨B, o, none⟩) n n) w) ∧ (0 < n → o = k) := by
  refine ⟨if n = 0 then 0 else k, fun w => ?_, fun h => by rw [if_neg (by omega)]⟩
  rw [run_slice_l w 22 (some ⟨B, 0, none⟩) (k + n) (k + n) Try.underlying22 .i64 (k : Int) (by omega) (by omega), size5 w]
  show Result.ok (sliced _ _ _ _ _) w = _
  have e2 : ((k : Int)).toNat = k := by omega
  rw [e2]
  unfold sliced
  by_cases h : n = 0
  · subst h; simp
  · rw [if_neg (by omega), if_neg h]; simp [add_lit]
theorem make_any (i0 : TypeInfo) (hi : Try.prog.info? 5 = some i0) (hz0 : i0.zero = some (.int .u8 0)) (hz1 : i0.size = 1) (hz2 : i0.bytes = 1) (n : Nat) (hn : n ≤ 2097152) (x : Int) (hx : x = n) :
    ∃ Z : List Value, Z.length = n ∧ ∀ w : World, (Instr.makeSlice 22 (.int .i64 x) (.int .i64 x)).run Try.prog w = .ok (.slice (some ⟨w.heap.size, 0, none⟩) n n) (w.alloc (.cells Z.toArray 5)) := by
  subst hx
  refine ⟨(madeCells (Value.int .u8 0).cells n).toList, by rw [Array.length_toList, size_madeCells], fun w => ?_⟩
  have hmk := run_make (P := Try.prog) w 22 5 i0 (.int .u8 0) Try.underlying22 hi hz0 .i64 .i64 (n : Int) (n : Int) (by omega) (by omega) (by rw [hz2]; omega) (by omega)
  rw [Int.toNat_natCast, hz1, Nat.mul_one] at hmk
  rw [hmk, Array.toArray_toList]
theorem cellsN_app (a b : List Nat) : cellsN (a ++ b) = cellsN a ++ cellsN b := by simp [cellsN]
theorem splice_two (Z A C : List Value) (h : Z.length = A.length + C.length) : splice (splice Z 0 A) A.length C = A ++ C := by
  simp [splice, h]
theorem size_of_heap {w : World} {g : Nat} {o : Obj} (h : w.heap[g]? = some o) : g < w.heap.size := by
  rcases Nat.lt_or_ge g w.heap.size with h' | h'
  · exact h'
  · rw [Array.getElem?_eq_none h'] at h; cases h

/-- A slice of bytes that came in: nil or not. -/
def Came2 (w : World) (a : Option Addr) (t : List Nat) : Prop := (∀ c ∈ t, c < 256) ∧ (0 < t.length → ∃ x, a = some x ∧ ∀ j, j < t.length → w.cell? (x.add j) = some (.int .u8 (t.getD j 0 : Nat)))

set_option maxRecDepth 100000 in
set_option maxHeartbeats 1000000 in
theorem law2_nil (a : Option Addr) (n c : Nat) (hn : n ≤ 1048576) (w : World) : Calls Try.prog 4 #[.slice none 0 0, .slice a n c] w fun e w' => e = .returned (.bool true) ∧ Below w.heap.size w w' := by
  have kn := fun (wx : World) (a : Option Addr) (n c : Nat) => run_neq_slice_nil_any (P := Try.prog) wx 22 5 a n c 0 0 Try.underlying22
  go_enter Try.func4, Try.ntmps4
  go_wp2_with (first
    | (go_at_call 9; refine (bound2_yes none a 0 0 n c (by omega) _).mono ?_; rintro e w' ⟨rfl, h'⟩; have h'' := h'.symm; clear h'; subst h'')
    | (go_at_call 7; refine (read_nil _).mono ?_; rintro e w' ⟨⟨x, rfl⟩, hb⟩))
  go_ret
  exact ⟨rfl, hb⟩
set_option maxRecDepth 100000 in
set_option maxHeartbeats 1000000 in
theorem law2_big (a a' : Option Addr) (len cap len' cap' : Nat) (h : 1048576 < len + len') (hm : len ≤ maxLen) (hm' : len' ≤ maxLen) (w : World) : Calls Try.prog 4 #[.slice a len cap, .slice a' len' cap'] w fun e w' => e = .returned (.bool true) ∧ Below w.heap.size w w' := by
  go_enter Try.func4, Try.ntmps4
  go_wp2_with (go_at_call 9; refine (bound2_no a a' len cap len' cap' h hm hm' _).mono ?_; rintro e w' ⟨rfl, h'⟩; have h'' := h'.symm; clear h'; subst h'')
  go_ret
  exact ⟨rfl, Below.refl _ _⟩

theorem copy_src2 {w wx : World} {x : Addr} {l : List Nat} (hx : ∀ j, j < l.length → w.cell? (x.add j) = some (.int .u8 (l.getD j 0 : Nat))) (hb : Below w.heap.size w wx) : ∀ j v, (cellsN l)[j]? = some v → wx.cell? (x.add j) = some v := by
  intro j v hj
  have hlt : j < l.length := by
    rcases Nat.lt_or_ge j l.length with h | h
    · exact h
    · rw [List.getElem?_eq_none (by rw [cellsN_len]; exact h)] at hj; cases hj
  have h1 := hx j hlt
  have h2 : v = .int .u8 (l.getD j 0 : Nat) := by
    simp [cellsN, hlt] at hj
    rw [← hj]; simp [List.getD, hlt]
  rw [h2, ← h1]
  exact hb.cell (World.block_lt_of_cell? w _ h1)

theorem below_new (w : World) (q : Nat) (o : Obj) : Below w.heap.size w ((w.drewN q).alloc o) := (below_drewN (Below.refl _ _) q).alloc (Nat.le_refl _) o
theorem row_src {w wx : World} {B : Nat} {l : List Nat} (hr : Row w B 0 l) (hB : B < w.heap.size) (hb : Below w.heap.size w wx) (k : Nat) : ∀ j v, (cellsN (l.take k))[j]? = some v → wx.cell? ⟨B, j, none⟩ = some v := by
  intro j v hj
  have hlt : j < (l.take k).length := by
    rcases Nat.lt_or_ge j (l.take k).length with h | h
    · exact h
    · rw [List.getElem?_eq_none (by rw [cellsN_len]; exact h)] at hj; cases hj
  rw [List.length_take] at hlt
  have h1 := hr.2 j (by omega)
  rw [Nat.zero_add] at h1
  rw [hb.cell (p := ⟨B, j, none⟩) hB, h1, ← hj]
  simp only [cellsN, List.getElem?_map, List.getElem?_take, List.getD]
  rw [if_pos (by omega), List.getElem?_eq_getElem (show j < l.length by omega)]
  rfl

theorem join_at (l t : List Nat) (k j : Nat) (hk : k ≤ l.length) : (l.take k ++ t).getD (k + j) 0 = t.getD j 0 := by
  rw [List.getD, List.getD, List.getElem?_append_right (by rw [List.length_take]; omega), List.length_take]
  congr 2; omega

set_option maxRecDepth 100000 in
set_option maxHeartbeats 4000000 in
theorem law2_some (l t : List Nat) (x : Addr) (a : Option Addr) (cap capt : Nat) (hlen : l.length + t.length ≤ 1048576) (hb256 : ∀ c ∈ l, c < 256) (w : World) (hx : ∀ j, j < l.length → w.cell? (x.add j) = some (.int .u8 (l.getD j 0 : Nat))) (ht : Came2 w a t) :
    Calls Try.prog 4 #[.slice (some x) l.length cap, .slice a t.length capt] w fun e w' => e = .returned (.bool true) ∧ Below w.heap.size w w' := by
  obtain ⟨i0, hi, hz0, hz1, hz2⟩ := info_parts Try.info5
  have kn := fun (wx : World) (a : Option Addr) (n c : Nat) => run_neq_slice_nil_any (P := Try.prog) wx 22 5 a n c 0 0 Try.underlying22
  have ke2 := fun (wx : World) (a : Option Addr) (n c : Nat) => Lib.run_eql_slice_nil (P := Try.prog) wx 24 37 a n c 0 0 Try.underlying24
  obtain ⟨Z, HZL, hmk⟩ := make_any i0 hi hz0 hz1 hz2 l.length (by omega) (l.length : Int) rfl
  have HZL := hid_mk HZL
  have HX := hid_mk hx
  have HT := hid_mk ht
  clear hx ht
  go_enter Try.func4, Try.ntmps4
  go_wp2_with (first
    | (go_at_call 9; refine (bound2_yes (some x) a l.length cap t.length capt hlen _).mono ?_; rintro e w' ⟨rfl, h'⟩; have h'' := h'.symm; clear h'; subst h'')
    | (refine wpList_copy_splice rfl (.tmp 33) (.tmp 34) 22 22 rfl 5 Try.underlying22 Try.size5' _ _ _ _ _ _ rfl rfl w.heap.size 0 Z 5 ?g1 (cellsN l) ?g2 ?g3 ?g4 ?g5 w.heap.size w ?g6 (Nat.le_refl _) ?g7))
  case g1 => exact heap_alloc_new w _
  case g2 => rw [cellsN_len]; exact (Nat.min_self _).symm
  case g3 => exact fun _ => copy_src HX.out
  case g4 => rw [cellsN_len, HZL.out]; omega
  case g5 => intro v hv; obtain ⟨c, _, rfl⟩ := List.mem_map.1 hv; rfl
  case g6 => exact (Below.refl _ _).alloc (Nat.le_refl _) _
  case g7 =>
  intro w2 HH hb2
  have hrow : Row w2 w.heap.size 0 l := row_of hb256 (by have := HH.out; rw [splice_all _ _ (by rw [cellsN_len, HZL.out])] at this; exact this)
  have hlt2 : w.heap.size < w2.heap.size := size_of_heap HH.out
  have hm := read_walk l w.heap.size 0 l.length w2 hrow (by omega) (Nat.le_refl _) hlt2
  have HM := hid_mk hm
  have HROW := hid_mk hrow
  clear hm hrow hmk HH HZL
  obtain ⟨g, HG⟩ : ∃ g, Hid (w.heap.size = g) := ⟨_, rfl⟩
  rw [HG.out] at HM HROW hlt2 hb2 ⊢
  go_wp2_with fail
  refine HM.out.mono ?_
  rintro e w3 ⟨hb3, hM⟩
  have hsz3 := hb3.size
  rcases hM with ⟨ms, k, v, o, hrm, rfl, hrow3, hown, hnil, hsome⟩ | ⟨hrm, y, rfl⟩
  · have hkb := rm_bd hrm
    obtain ⟨hkb1, hkb2⟩ := hkb
    obtain ⟨va, vc, hv⟩ := own_shape hown
    subst hv
    have hused : (l.length : Int) - ((l.length - k : Nat) : Int) = (k : Int) := by omega
    have HRM := hid_mk hrm
    have HROW3 := hid_mk hrow3
    have HOWN := hid_mk hown
    have HNIL := hid_mk hnil
    have HSOME := hid_mk hsome
    have HB3 := hid_mk hb3
    have hb23 : Below g w w3 := hb2.trans (hb3.mono (by omega))
    have HB23 := hid_mk hb23
    clear hrm hrow3 hown hnil hsome hb3 hb23 HM
    go_wp2
    go_loopw [67] (fun i wr => ∃ j : Nat, j ≤ l.length - k ∧ i = .int .i64 j ∧ (∃ q, Hid (wr = w3.drewN q))) (fun i _ => (l.length - k) - (intOf i).toNat)
    case atStart => exact ⟨0, by omega, rfl, 0, hid_mk rfl⟩
    case round =>
      obtain ⟨j, hj, rfl, q, HW⟩ := hrel
      have hw := HW.out
      subst hw
      by_cases hlt : j < l.length - k
      · have a1 : w3.cell? ⟨g, o + j, none⟩ = some (.int .u8 (l.getD (k + j) 0 : Nat)) := by
          have := HROW3.out.2 j (by rw [List.length_drop]; exact hlt)
          rw [drop_getD] at this; exact this
        have a2 : w3.cell? ⟨g, k + j, none⟩ = some (.int .u8 (l.getD (k + j) 0 : Nat)) := by
          have := (HROW.out.below HB3.out hlt2).2 (k + j) (by omega)
          rw [Nat.zero_add] at this; exact this
        generalize l.getD (k + j) 0 = y at *
        have ht : ((k : Int) + j).toNat = k + j := by omega
        go_wp2
        go_quiet (fail)
        go_wp2
        go_roundw
        case rel => exact ⟨j + 1, by omega, by go_num, _, hid_mk rfl⟩
        case measure => simp [intOf]; omega
      · obtain ⟨Z2, HZ2, hmk2⟩ := make_any i0 hi hz0 hz1 hz2 (k + t.length) (by omega) ((k : Int) + t.length) (by omega)
        have hs1 := slice_head g l.length l.length k hkb2
        obtain ⟨o2, hs2, ho2⟩ := slice_tail w3.heap.size t.length k
        have HZ2 := hid_mk HZ2
        have HO2 := hid_mk ho2
        clear ho2
        go_wp2_with (refine wpList_copy_splice rfl (.tmp 87) (.tmp 90) 22 22 rfl 5 Try.underlying22 Try.size5' _ _ _ _ _ _ rfl rfl w3.heap.size 0 Z2 5 ?k1 (cellsN (l.take k)) ?k2 ?k3 ?k4 ?k5 w3.heap.size w3 ?k6 (Nat.le_refl _) ?k8)
        case k1 => exact (Array.getElem?_eq_some_iff.1 (heap_alloc_new (w3.drewN q) (.cells Z2.toArray 5))).2
        case k2 => rw [cellsN_len, List.length_take]; omega
        case k3 => exact fun _ => row_src (HROW.out.below HB3.out hlt2) (by omega) (below_new w3 q _) k
        case k4 => rw [cellsN_len, List.length_take]; omega
        case k5 => intro v hv; obtain ⟨c, _, rfl⟩ := List.mem_map.1 hv; rfl
        case k6 => exact below_new w3 q _
        case k8 =>
        intro w5 HH5 hb5
        have HB5 := hid_mk hb5
        clear hmk2 hs1
        go_wp2_with (refine wpList_copy_splice rfl (.tmp 94) (.tmp 95) 22 22 rfl 5 Try.underlying22 Try.size5' _ _ _ _ _ _ rfl rfl w3.heap.size k (splice Z2 0 (cellsN (l.take k))) 5 ?m1 (cellsN t) ?m2 ?m3 ?m4 ?m5 w3.heap.size w3 ?m6 (Nat.le_refl _) ?m8)
        case m1 => exact HH5.out
        case m2 => rw [cellsN_len]; exact (Nat.min_self _).symm
        case m3 =>
          intro h
          rw [cellsN_len] at h
          obtain ⟨x2, hx2, hc2⟩ := HT.out.2 h
          exact ⟨by rw [HO2.out h], x2, hx2, copy_src2 hc2 (by have := HB23.out.trans (HB5.out.mono (show g ≤ w3.heap.size by omega)); rw [← HG.out] at this; exact this)⟩
        case m4 => rw [cellsN_len, length_splice _ _ _ (by rw [cellsN_len, List.length_take, HZ2.out]; omega), HZ2.out]; omega
        case m5 => intro v hv; obtain ⟨c, _, rfl⟩ := List.mem_map.1 hv; rfl
        case m6 => exact HB5.out
        case m8 =>
        intro w6 HH6 hb6
        obtain ⟨J, HJ⟩ : ∃ J, Hid (J = l.take k ++ t) := ⟨_, rfl⟩
        have hJl : J.length = k + t.length := by rw [HJ.out, List.length_append, List.length_take]; omega
        have hJ256 : ∀ c ∈ J, c < 256 := by
          intro c hc
          rw [HJ.out] at hc
          rcases List.mem_append.1 hc with h | h
          · exact hb256 c (List.mem_of_mem_take h)
          · exact HT.out.1 c h
        have hrow6 : Row w6 w3.heap.size 0 J := row_of hJ256 (by
          have := HH6.out
          have h2 : (cellsN (l.take k)).length = k := by rw [cellsN_len, List.length_take]; omega
          have h3 := splice_two Z2 (cellsN (l.take k)) (cellsN t) (by rw [h2, cellsN_len, HZ2.out])
          rw [h2] at h3
          rw [h3, ← cellsN_app, ← HJ.out] at this
          exact this)
        have hlt6 : w3.heap.size < w6.heap.size := size_of_heap HH6.out
        have hr2 := read_walk J w3.heap.size 0 (k + t.length) w6 hrow6 (by omega) (by omega) hlt6
        rw [hJl] at hr2
        have HR2 := hid_mk hr2
        have HRJ : Hid (rm J = some (ms, k)) := by rw [HJ.out]; exact rm_join HRM.out hkb2
        have hJ2 : J.length - k = t.length := by omega
        have HJ2 := hid_mk hJ2
        have HJL := hid_mk hJl
        have HB6 := hid_mk hb6
        clear hr2 hrow6 hb6 hJ256 hJ2 hJl hs2 HH5 HH6 HB5 hb5
        go_wp2_with fail
        refine HR2.out.mono ?_
        rintro e w7 ⟨hb7, hR⟩
        have hsz7 := hb7.size
        rcases hR with ⟨ms', k', v', o', hrm', rfl, hrow7, hown7, hnil7, hsome7⟩ | ⟨hrm', _⟩
        · have heq := HRJ.out.symm.trans hrm'
          simp only [Option.some.injEq, Prod.mk.injEq] at heq
          obtain ⟨rfl, rfl⟩ := heq
          rw [HJ2.out]
          have HROW7 := hid_mk hrow7
          have hb37 : Below w3.heap.size w3 w7 := HB6.out.trans (hb7.mono (by omega))
          have HB37 := hid_mk hb37
          have HB7 : Hid (Below w.heap.size w w7) := by
            have := HB23.out.trans (hb37.mono (show g ≤ w3.heap.size by omega))
            rw [← HG.out] at this; exact this
          have hJl := HJL.out
          clear hrow7 hb37 hb7
          by_cases hms : ms = []
          · subst hms
            have hv' := hnil7 rfl
            have hv := HNIL.out rfl
            injection hv with hv1 _ hv3
            subst hv' hv1 hv3
            clear hrm' hown7 hnil7 hsome7
            go_wp2_with fail
            refine (same_zero _ _ _ _ _).mono ?_
            rintro e w8 ⟨rfl, h'⟩; have h'' := h'.symm; clear h'; subst h''
            go_wp2_with fail
            by_cases ht0 : t.length = 0
            · rw [ht0]
              refine (bytes_zero _ _ _ _ _).mono ?_
              rintro e w9 ⟨rfl, h'⟩; have h'' := h'.symm; clear h'; subst h''
              go_wp2
              go_ret
              exact ⟨rfl, HB7.out⟩
            · obtain ⟨x2, hx2, hc2⟩ := HT.out.2 (by omega)
              rw [hx2]
              refine (bytes_walk t.length o' x2 (fun j => t.getD j 0) w3.heap.size _ _ (by omega) _ (fun j hj => by
                have := HROW7.out.2 j (by rw [List.length_drop]; omega)
                rw [drop_getD, HJ.out, join_at l t k j (by omega)] at this; exact this) (fun j hj => by
                exact (HB7.out.cell (World.block_lt_of_cell? w _ (hc2 j hj))).trans (hc2 j hj))).mono ?_
              rintro e w9 ⟨rfl, q9, rfl⟩
              go_wp2
              go_ret
              exact ⟨rfl, below_drewN (HB7.out) _⟩
          · obtain ⟨g1, c1, hv'⟩ := hsome7 hms
            obtain ⟨g0, c0, hv⟩ := HSOME.out hms
            injection hv with hv1 _ hv3
            subst hv' hv1 hv3
            have hm1 := MRow.of hown7
            have hm0 := (MRow.of HOWN.out).below HB37.out (HOWN.out.lt g0 rfl).2
            have hsm := same_walk ms g1 g0 c1 vc (by omega) w7 hm1 hm0
            have HSM := hid_mk hsm
            clear hrm' hown7 hnil7 hsome7 hm1 hm0 hsm
            go_wp2_with fail
            refine HSM.out.mono ?_
            rintro e w8 ⟨rfl, q8, rfl⟩
            go_wp2_with fail
            by_cases ht0 : t.length = 0
            · rw [ht0]
              refine (bytes_zero _ _ _ _ _).mono ?_
              rintro e w9 ⟨rfl, h'⟩; have h'' := h'.symm; clear h'; subst h''
              go_wp2
              go_ret
              exact ⟨rfl, below_drewN HB7.out _⟩
            · obtain ⟨x2, hx2, hc2⟩ := HT.out.2 (by omega)
              rw [hx2]
              refine (bytes_walk t.length o' x2 (fun j => t.getD j 0) w3.heap.size _ _ (by omega) _ (fun j hj => by
                have := HROW7.out.2 j (by rw [List.length_drop]; omega)
                rw [drop_getD, HJ.out, join_at l t k j (by omega)] at this; exact this) (fun j hj => by
                exact (HB7.out.cell (World.block_lt_of_cell? w _ (hc2 j hj))).trans (hc2 j hj))).mono ?_
              rintro e w9 ⟨rfl, q9, rfl⟩
              go_wp2
              go_ret
              exact ⟨rfl, below_drewN HB7.out _⟩
        · rw [HRJ.out] at hrm'; cases hrm'
  · go_wp2
    go_ret
    exact ⟨rfl, by rw [HG.out]; exact hb2.trans (hb3.mono (by omega))⟩
end Go.Proofs.Qxb6630051a
