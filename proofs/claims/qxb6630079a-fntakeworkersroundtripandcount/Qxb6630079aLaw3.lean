import Derived.Test.Qxb6630079aWrap
namespace Go.Proofs.Qxb6630079a
open Go.RowKit

theorem names_same {A : List WA} {i : Nat} (hi : i < A.length) : lastOf (nmsOf A) i < A.length ∧ nmA A (lastOf (nmsOf A) i) = nmA A i := by
  obtain ⟨_, _, l3, l4⟩ := lastOf_spec (N := nmsOf A) (i := i) (by rw [nmsOf_len]; exact hi)
  rw [nmsOf_len] at l3
  rw [nms_nm A i hi, nms_nm A _ l3] at l4
  refine ⟨l3, ?_⟩
  generalize nmA A (lastOf (nmsOf A) i) = x at *
  generalize nmA A i = y at *
  obtain ⟨⟨x⟩⟩ := x
  obtain ⟨⟨y⟩⟩ := y
  simpa using l4
theorem rec_at {A : List WA} {k r : Nat} {w : World} {ra : Option Addr} {rc : Nat} (hk : k < A.length) (hf : isFirst (nmsOf A) k = true) (hll : lastOf (nmsOf A) k < A.length) (hr : A[lastOf (nmsOf A) k].2.2.2.2 = true) (h : RecsOK w (.slice ra (recsA A).length rc) (recsA A)) (hn : r = (regsTo (nmsOf A) (regA A) k).length) :
    r < (recsA A).length ∧ ∃ gr v, ra = some ⟨gr, 0, none⟩ ∧ w.cell? ⟨gr, r * 4, none⟩ = some (.string A[lastOf (nmsOf A) k].1) ∧ w.cell? ⟨gr, r * 4 + 1, none⟩ = some v ∧ Q w v A[lastOf (nmsOf A) k].2.1 ∧ w.cell? ⟨gr, r * 4 + 2, none⟩ = some (.string A[lastOf (nmsOf A) k].2.2.1) ∧ w.cell? ⟨gr, r * 4 + 3, none⟩ = some (.int .i64 A[lastOf (nmsOf A) k].2.2.2.1) := by
  have hat := regsTo_at (N := nmsOf A) (reg := regA A) hk hf (by rw [regA, getD_at A _ hll]; exact hr)
  rw [← hn] at hat
  obtain ⟨hlt, hge⟩ := List.getElem?_eq_some_iff.1 hat
  have hl : r < (recsA A).length := by simpa [recsA] using hlt
  have he : (recsA A)[r] = (A[lastOf (nmsOf A) k].1, A[lastOf (nmsOf A) k].2.1, A[lastOf (nmsOf A) k].2.2.1, A[lastOf (nmsOf A) k].2.2.2.1) := by
    simp only [recsA, List.getElem_map, hge]; rw [recA, getD_at A _ hll]
  refine ⟨hl, ?_⟩
  rcases h with ⟨e, _⟩ | ⟨_, gr, c, e, hc⟩
  · rw [e] at hl; simp at hl
  · injection e with e1 e2 e3
    obtain ⟨c0, ⟨v, c1, c1'⟩, c2, c3⟩ := hc r hl
    rw [he] at c0 c1' c2 c3
    exact ⟨gr, v, e1, c0, c1, c1', c2, c3⟩
theorem gone_at {A : List WA} {k r : Nat} {w : World} {ra : Option Addr} {rc : Nat} (hk : k < A.length) (hf : isFirst (nmsOf A) k = true) (hll : lastOf (nmsOf A) k < A.length) (hr : A[lastOf (nmsOf A) k].2.2.2.2 = false) (h : GoneOK w (.slice ra (gonesA A).length rc) (gonesA A)) (hn : r = (gonesTo (nmsOf A) (regA A) k).length) :
    r < (gonesA A).length ∧ ∃ gr, ra = some ⟨gr, 0, none⟩ ∧ w.cell? ⟨gr, r, none⟩ = some (.string A[lastOf (nmsOf A) k].1) := by
  have hat := gonesTo_at (N := nmsOf A) (reg := regA A) hk hf (by rw [regA, getD_at A _ hll]; exact hr)
  rw [← hn] at hat
  obtain ⟨hlt, hge⟩ := List.getElem?_eq_some_iff.1 hat
  have hl : r < (gonesA A).length := by simpa [gonesA] using hlt
  have he : (gonesA A)[r] = A[lastOf (nmsOf A) k].1 := by
    simp only [gonesA, List.getElem_map, hge]; rw [← (names_same hk).2, nmA, getD_at A _ hll]
  refine ⟨hl, ?_⟩
  rcases h with ⟨e, _⟩ | ⟨_, gr, c, e, hc⟩
  · rw [e] at hl; simp at hl
  · injection e with e1 e2 e3
    have c0 := hc r hl
    rw [he] at c0
    exact ⟨gr, e1, c0⟩
/-- The state of the law's loop. -/
def L3 (A : List WA) (w4 wr : World) (v r g : Value) : Prop := Below w4.heap.size w4 wr ∧ OV wr v A ∧ RecsOK wr r (recsA A) ∧ GoneOK wr g (gonesA A)
theorem L3.stays {A : List WA} {w4 wr wx : World} {v r g : Value} (h : L3 A w4 wr v r g) (hb : Below wr.heap.size wr wx) : L3 A w4 wx v r g :=
  ⟨h.1.trans (hb.mono h.1.size), h.2.1.stays hb, h.2.2.1.stays hb, h.2.2.2.stays hb⟩

set_option maxRecDepth 100000 in
set_option maxHeartbeats 4000000 in
theorem law3_walk (A : List WA) (v : Value) (w : World) (h : ArgOK w v A) (hS : Sized A) :
    Calls Try.prog 3 #[v] w fun e w' => e = .returned (.bool true) ∧ Below w.heap.size w w' := by
  have ke := fun (wx : World) (a : Option Addr) (n c : Nat) => Lib.run_eql_slice_nil (P := Try.prog) wx 25 38 a n c 0 0 Try.underlying25
  have ke2 := fun (wx : World) (a : Option Addr) (n c : Nat) => Lib.run_eql_slice_nil (P := Try.prog) wx 26 9 a n c 0 0 Try.underlying26
  obtain ⟨a, c, hv⟩ := h.shape
  subst hv
  have H := hid_mk h
  have HS := hid_mk hS
  clear h hS
  go_enter Try.func3, Try.ntmps3
  go_wp2_with fail
  refine (bytes5_any A _ w H.out HS.out).mono ?_
  rintro e w' ⟨⟨x, rfl⟩, h'⟩
  have h'' := h'.symm; clear h'; subst h''
  cases x
  · go_wp2
    go_ret
    exact ⟨rfl, Below.refl _ _⟩
  by_cases hbig : 4096 < A.length
  · go_wp2
    go_ret
    exact ⟨rfl, Below.refl _ _⟩
  go_wp2_with fail
  refine (small_any A _ (by omega) w H.out HS.out).mono ?_
  rintro e w' ⟨⟨x, rfl, hq⟩, h'⟩
  have h'' := h'.symm; clear h'; subst h''
  cases x
  · clear hq
    go_wp2
    go_ret
    exact ⟨rfl, Below.refl _ _⟩
  have HQ := hid_mk (hq rfl)
  have hlen : A.length ≤ 4096 := by omega
  clear hq hbig
  go_wp2_with fail
  refine (clone_any A _ hlen HQ.out w H.out).mono ?_
  rintro e w1 ⟨a1, c1, rfl, o1, b1⟩
  have O1 := hid_mk o1; have B1 := hid_mk b1
  clear o1 b1
  go_wp2_with fail
  refine (clone_any A _ hlen HQ.out w1 O1.out.arg).mono ?_
  rintro e w2 ⟨a2, c2, rfl, o2, b2⟩
  have O2 := hid_mk o2; have B2 := hid_mk b2
  clear o2 b2
  go_wp2_with fail
  refine (build_any A _ hlen w2 O2.out).mono ?_
  rintro e w3 ⟨a3, c3, rfl, o3, b3⟩
  have O3 := hid_mk o3; have B3 := hid_mk b3
  clear o3 b3
  go_wp2_with fail
  refine (zztake_any A _ hlen (fun a h => (HS.out a h).1) w3 O3.out).mono ?_
  rintro e w4 ⟨b4, ra, rc, ga, gc, rfl, r4, g4⟩
  have bt : Below w.heap.size w w4 := B1.out.trans ((B2.out.trans ((B3.out.trans (b4.mono B3.out.size)).mono B2.out.size)).mono B1.out.size)
  have HL : Hid (L3 A w4 w4 (.slice a1 A.length c1) (.slice ra (recsA A).length rc) (.slice ga (gonesA A).length gc)) := hid_mk ⟨Below.refl _ _, O1.out.stays (B2.out.trans ((B3.out.trans (b4.mono B3.out.size)).mono B2.out.size)), r4, g4⟩
  have BT := hid_mk bt
  clear bt b4 r4 g4 O1 O2 O3 B1 B2 B3 H
  go_wp2
  go_loopw [6, 7, 8] (fun v6 v7 v8 wr => ∃ k r g : Nat, k ≤ A.length ∧ r ≤ k ∧ g ≤ k ∧ v6 = .int .i64 (r : Int) ∧ v7 = .int .i64 (g : Int) ∧ v8 = .int .i64 (k : Int) ∧ Hid (r = (regsTo (nmsOf A) (regA A) k).length ∧ g = (gonesTo (nmsOf A) (regA A) k).length) ∧ Hid (L3 A w4 wr (.slice a1 A.length c1) (.slice ra (recsA A).length rc) (.slice ga (gonesA A).length gc))) (fun _ _ v8 _ => A.length - (intOf v8).toNat)
  case atStart => exact ⟨0, 0, 0, by omega, by omega, by omega, rfl, rfl, rfl, hid_mk ⟨rfl, rfl⟩, HL⟩
  case round =>
    obtain ⟨k, r, g, hk, hrk, hgk, rfl, rfl, rfl, HC, hL⟩ := hrel
    clear HL
    by_cases hlt : k < A.length
    · obtain ⟨g0, ha1, hws⟩ : ∃ g0, a1 = some ⟨g0, 0, none⟩ ∧ Hid (WsAt wr g0 0 A) := by
        rcases hL.out.2.1 with ⟨e, _⟩ | ⟨g0, cap0, e, hws⟩
        · rw [e] at hlt; simp at hlt
        · injection e with e1 e2 e3
          exact ⟨g0, e1, hws⟩
      subst ha1
      clear ke ke2
      go_wp2_with fail
      refine (first_walk A g0 c1 k hlt (by omega) wr hws.out).mono ?_
      rintro e w' ⟨rfl, q, rfl⟩
      cases hf : isFirst (nmsOf A) k
      · have hsk := regsTo_skip (reg := regA A) hf
        have HC2 : Hid (r = (regsTo (nmsOf A) (regA A) (k + 1)).length ∧ g = (gonesTo (nmsOf A) (regA A) (k + 1)).length) := hid_mk ⟨by rw [hsk.1]; exact HC.out.1, by rw [hsk.2]; exact HC.out.2⟩
        have HL2 := hid_mk (hL.out.stays (below_drewN (Below.refl _ _) q))
        clear hsk
        go_wp2
        go_roundw
        case rel => exact ⟨k + 1, r, g, by omega, by omega, by omega, rfl, rfl, by go_num, HC2, HL2⟩
        case measure => simp [intOf]; omega
      · obtain ⟨hll, hsame⟩ := names_same hlt
        go_wp2_with fail
        refine (last_walk A g0 c1 k hlt (by omega) (wr.drewN q) (hws.out.stays (below_drewN (Below.refl _ _) q))).mono ?_
        rintro e wq ⟨rfl, q2, hq2⟩
        have hbq : Below wr.heap.size wr wq := by rw [hq2]; exact below_drewN (below_drewN (Below.refl _ _) q) q2
        clear hq2
        have hLq := hid_mk (hL.out.stays hbq)
        obtain ⟨d0, ⟨v1, d1, hqv⟩, d2, d3, d4⟩ := hws.out.stays hbq (lastOf (nmsOf A) k) hll
        clear hbq hL hws
        rw [Nat.zero_add] at d0 d1 d2 d3 d4
        obtain ⟨va, vn, vc, hvs⟩ := hqv.shape
        subst hvs
        cases hrg : A[lastOf (nmsOf A) k].2.2.2.2
        · obtain ⟨hgl, gg, hga, e0⟩ := gone_at hlt hf hll hrg hLq.out.2.2.2 HC.out.2
          subst hga
          rw [hrg] at d4
          have hsk := regsTo_gone (reg := regA A) hf (by rw [regA, getD_at A _ hll]; exact hrg)
          have HC2 : Hid (r = (regsTo (nmsOf A) (regA A) (k + 1)).length ∧ g + 1 = (gonesTo (nmsOf A) (regA A) (k + 1)).length) := hid_mk ⟨by rw [hsk.1]; exact HC.out.1, by rw [hsk.2, List.length_append, ← HC.out.2]; rfl⟩
          have hgle : (gonesA A).length ≤ A.length := by have := List.length_filter_le (fun i => !regA A (lastOf (nmsOf A) i)) (firstsTo (nmsOf A) A.length); have h2 := firstsTo_len (nmsOf A) A.length; simp only [gonesA, gonesTo, List.length_map]; omega
          clear hsk hrg hqv hsame
          generalize A[lastOf (nmsOf A) k] = x at *
          generalize lastOf (nmsOf A) k = l at *
          obtain ⟨nm, oq, st, ttl, rg⟩ := x
          simp only at d0 d1 d2 d3 e0
          go_wp2
          obtain ⟨wz, hwz⟩ : ∃ wz, Hid (wq.alloc (.cells #[.string nm, .slice va vn vc, .string st, .int .i64 ttl, .bool false] 33) = wz) := ⟨_, rfl⟩
          have hbz : Below wq.heap.size wq wz := by rw [← hwz.out]; exact (Below.refl _ _).alloc (Nat.le_refl _) _
          have f0 : wz.cell? ⟨wq.heap.size, 0, none⟩ = some (.string nm) := by rw [← hwz.out]; simp only [World.cell?, heap_alloc_new]; simp
          have e0' := cell_stays e0 hbz
          have HLz := fun n => hid_mk (hLq.out.stays (below_drewN hbz n))
          rw [hwz.out]
          generalize wq.heap.size = bq at *
          clear d0 d1 d2 d3 d4 e0 hbz hLq hwz
          go_quiet (fail)
          go_wp2
          go_roundw
          case rel => exact ⟨k + 1, r, g + 1, by omega, by omega, by omega, rfl, by go_num, by go_num, HC2, HLz _⟩
          case measure => simp [intOf]; omega
        · obtain ⟨hgl, gg, v2, hga, e0, e1, hq2, e2, e3⟩ := rec_at hlt hf hll hrg hLq.out.2.2.1 HC.out.1
          subst hga
          obtain ⟨va2, vn2, vc2, hvs2⟩ := hq2.shape
          subst hvs2
          rw [hrg] at d4
          have hsk := regsTo_reg (reg := regA A) hf (by rw [regA, getD_at A _ hll]; exact hrg)
          have HC2 : Hid (r + 1 = (regsTo (nmsOf A) (regA A) (k + 1)).length ∧ g = (gonesTo (nmsOf A) (regA A) (k + 1)).length) := hid_mk ⟨by rw [hsk.1, List.length_append, ← HC.out.1]; rfl, by rw [hsk.2]; exact HC.out.2⟩
          have hgle : (recsA A).length ≤ A.length := by have := List.length_filter_le (fun i => regA A (lastOf (nmsOf A) i)) (firstsTo (nmsOf A) A.length); have h2 := firstsTo_len (nmsOf A) A.length; simp only [recsA, regsTo, List.length_map]; omega
          have HQL : Hid (∀ ss, A[lastOf (nmsOf A) k].2.1 = some ss → ss.length ≤ 1048576) := hid_mk (fun ss e => by have := HQ.out _ (List.getElem_mem hll) ss e; omega)
          have HQV := hid_mk hqv; have HQ2 := hid_mk hq2
          clear hsk hrg hqv hsame hq2
          generalize A[lastOf (nmsOf A) k] = x at *
          generalize lastOf (nmsOf A) k = l at *
          obtain ⟨nm, oq, st, ttl, rg⟩ := x
          simp only at d0 d1 d2 d3 e0 e2 e3
          go_wp2
          obtain ⟨wz, hwz⟩ : ∃ wz, Hid (wq.alloc (.cells #[.string nm, .slice va vn vc, .string st, .int .i64 ttl, .bool true] 33) = wz) := ⟨_, rfl⟩
          have hbz : Below wq.heap.size wq wz := by rw [← hwz.out]; exact (Below.refl _ _).alloc (Nat.le_refl _) _
          have f0 : wz.cell? ⟨wq.heap.size, 0, none⟩ = some (.string nm) := by rw [← hwz.out]; simp only [World.cell?, heap_alloc_new]; simp
          have f1 : wz.cell? ⟨wq.heap.size, 1, none⟩ = some (.slice va vn vc) := by rw [← hwz.out]; simp only [World.cell?, heap_alloc_new]; simp
          have f2 : wz.cell? ⟨wq.heap.size, 2, none⟩ = some (.string st) := by rw [← hwz.out]; simp only [World.cell?, heap_alloc_new]; simp
          have f3 : wz.cell? ⟨wq.heap.size, 3, none⟩ = some (.int .i64 ttl) := by rw [← hwz.out]; simp only [World.cell?, heap_alloc_new]; simp
          have f4 : wz.cell? ⟨wq.heap.size, 4, none⟩ = some (.bool true) := by rw [← hwz.out]; simp only [World.cell?, heap_alloc_new]; simp
          have e0' := cell_stays e0 hbz; have e1' := cell_stays e1 hbz; have e2' := cell_stays e2 hbz; have e3' := cell_stays e3 hbz
          have HLz := fun wy (hy : Below wz.heap.size wz wy) => hid_mk (hLq.out.stays (hbz.trans (hy.mono hbz.size)))
          have HQz := hid_mk (HQV.out.stays hbz); have HQz2 := hid_mk (HQ2.out.stays hbz)
          rw [hwz.out]
          generalize wq.heap.size = bq at *
          clear d0 d1 d2 d3 d4 e0 e1 e2 e3 hbz hLq hwz HQV HQ2
          have HLZ := hid_mk HLz
          clear HLz
          go_region_held3 (fun w' => w'.cell? ⟨gg, r * 4, none⟩ = some (.string nm) ∧ w'.cell? ⟨gg, r * 4 + 1, none⟩ = some (.slice va2 vn2 vc2) ∧ w'.cell? ⟨gg, r * 4 + 2, none⟩ = some (.string st) ∧ w'.cell? ⟨gg, r * 4 + 3, none⟩ = some (.int .i64 ttl) ∧ w'.cell? ⟨bq, 0, none⟩ = some (.string nm) ∧ w'.cell? ⟨bq, 1, none⟩ = some (.slice va vn vc) ∧ w'.cell? ⟨bq, 2, none⟩ = some (.string st) ∧ w'.cell? ⟨bq, 3, none⟩ = some (.int .i64 ttl) ∧ w'.cell? ⟨bq, 4, none⟩ = some (.bool true))
            (first | go_keep | (go_split_ands; refine ⟨?_, ?_, ?_, ?_, ?_, ?_, ?_, ?_, ?_⟩ <;> exact cell_stays (by assumption) hb12))
            (first
              | (go_at_call 12; refine (recin_walk nm st ttl true oq va2 va vn2 vc2 vn vc HQL.out _ (HQz2.out.stays (below_drewN (Below.refl _ _) 1)) (HQz.out.stays (below_drewN (Below.refl _ _) 1))).mono ?_; rintro e wy ⟨rfl, hb12⟩))
          have HLN := HLZ.out wy ((below_drewN (Below.refl _ _) 1).trans hb12)
          clear hb12 HLZ f0 f1 f2 f3 f4 e0' e1' e2' e3'
          go_wp2
          go_roundw
          case rel => exact ⟨k + 1, r + 1, g, by omega, by omega, by omega, by go_num, rfl, by go_num, HC2, HLN⟩
          case measure => simp [intOf]; omega
    · have hke : k = A.length := by omega
      subst hke
      have hr : r = (recsA A).length := by rw [HC.out.1]; simp [recsA]
      have hg : g = (gonesA A).length := by rw [HC.out.2]; simp [gonesA]
      have HB := hid_mk (BT.out.trans (hL.out.1.mono BT.out.size))
      have hR := hL.out.2.2.1
      have hG := hL.out.2.2.2
      clear HC hL HS HQ
      rcases hR with ⟨er, hr2⟩ | ⟨er, gr, rc', hr2, -⟩ <;> rcases hG with ⟨eg, hg2⟩ | ⟨eg, gg, gc', hg2, -⟩
      · injection hr2 with hr2 _ hr4; injection hg2 with hg2 _ hg4
        subst hr2 hr4 hg2 hg4
        rw [er] at hr ⊢; rw [eg] at hg ⊢
        simp only [List.length_nil] at hr hg ⊢
        subst hr hg
        go_wp2
        go_ret
        exact ⟨rfl, HB.out⟩
      · injection hr2 with hr2 _ hr4; injection hg2 with hg2 _ hg4
        subst hr2 hr4 hg2 hg4
        have hp := List.length_pos_iff.2 eg
        rw [er] at hr ⊢
        simp only [List.length_nil] at hr ⊢
        subst hr hg
        generalize (gonesA A).length = n at *
        go_wp2
        go_ret
        exact ⟨rfl, HB.out⟩
      · injection hr2 with hr2 _ hr4; injection hg2 with hg2 _ hg4
        subst hr2 hr4 hg2 hg4
        have hp := List.length_pos_iff.2 er
        rw [eg] at hg ⊢
        simp only [List.length_nil] at hg ⊢
        subst hr hg
        generalize (recsA A).length = n at *
        go_wp2
        go_ret
        exact ⟨rfl, HB.out⟩
      · injection hr2 with hr2 _ hr4; injection hg2 with hg2 _ hg4
        subst hr2 hr4 hg2 hg4
        have hp := List.length_pos_iff.2 er
        have hp2 := List.length_pos_iff.2 eg
        subst hr hg
        generalize (recsA A).length = n at *
        generalize (gonesA A).length = m at *
        go_wp2
        go_ret
        exact ⟨rfl, HB.out⟩
end Go.Proofs.Qxb6630079a
