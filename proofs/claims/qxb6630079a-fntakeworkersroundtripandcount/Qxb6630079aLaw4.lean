import Derived.Test.Qxb6630079aAgain
namespace Go.Proofs.Qxb6630079a
open Go.RowKit

theorem wk_new {w5 wa : World} {p : Nat} {a : WA} {v e1 e2 e3 e4 : Value} (hq : Q w5 v a.2.1) (h : wa.heap[p]? = some (.cells #[.string a.1, v, .string a.2.2.1, .int .i64 a.2.2.2.1, e1, e2, e3, e4, .bool a.2.2.2.2] 48)) : WkAt w5 wa p a := by
  unfold WkAt
  simp only [World.cell?, h]
  simp [hq]
theorem new_at (wx : World) (o : Obj) {n : Nat} (hn : wx.heap.size = n) : (wx.alloc o).heap[n]? = some o := by subst hn; exact heap_alloc_new wx o
/-- A record of the answer. -/
theorem rec_cells {A : List WA} {w : World} {ra : Option Addr} {rc : Nat} (h : RecsOK w (.slice ra (recsA A).length rc) (recsA A)) (i : Nat) (hi : i < (recsA A).length) :
    ∃ gr va vn vc, ra = some ⟨gr, 0, none⟩ ∧ w.cell? ⟨gr, i * 4, none⟩ = some (.string (recsA A)[i].1) ∧ w.cell? ⟨gr, i * 4 + 1, none⟩ = some (.slice va vn vc) ∧ Q w (.slice va vn vc) (recsA A)[i].2.1 ∧ w.cell? ⟨gr, i * 4 + 2, none⟩ = some (.string (recsA A)[i].2.2.1) ∧ w.cell? ⟨gr, i * 4 + 3, none⟩ = some (.int .i64 (recsA A)[i].2.2.2) := by
  rcases h with ⟨e, _⟩ | ⟨_, gr, c, e, hc⟩
  · rw [e] at hi; simp at hi
  · injection e with e1 e2 e3
    obtain ⟨c0, ⟨v, c1, c1'⟩, c2, c3⟩ := hc i hi
    obtain ⟨va, vn, vc, rfl⟩ := c1'.shape
    exact ⟨gr, va, vn, vc, e1, c0, c1, c1', c2, c3⟩
theorem gone_cells {A : List WA} {w : World} {ga : Option Addr} {gc : Nat} (h : GoneOK w (.slice ga (gonesA A).length gc) (gonesA A)) (i : Nat) (hi : i < (gonesA A).length) :
    ∃ gg, ga = some ⟨gg, 0, none⟩ ∧ w.cell? ⟨gg, i, none⟩ = some (.string (gonesA A)[i]) := by
  rcases h with ⟨e, _⟩ | ⟨_, gr, c, e, hc⟩
  · rw [e] at hi; simp at hi
  · injection e with e1 e2 e3
    exact ⟨gr, e1, hc i hi⟩
/-- The names of the gone as a slice of strings. -/
def goneQ (gs : List ByteArray) : Option (List ByteArray) := if gs = [] then none else some gs
theorem GoneOK.q {w : World} {v : Value} {gs : List ByteArray} (h : GoneOK w v gs) : Q w v (goneQ gs) := by
  rcases h with ⟨rfl, rfl⟩ | ⟨h0, g, c, rfl, hc⟩
  · exact .inl ⟨rfl, rfl⟩
  · refine .inr ⟨gs, _, c, by rw [goneQ, if_neg h0], rfl, fun j hj => ?_⟩
    rw [add_lit, Nat.zero_add]
    exact hc j hj
theorem goneQ_len {gs : List ByteArray} {n : Nat} (h : gs.length ≤ n) : ∀ ss, goneQ gs = some ss → ss.length ≤ n := by
  intro ss e
  unfold goneQ at e
  split at e
  · cases e
  · cases e; exact h

set_option maxRecDepth 100000 in
set_option maxHeartbeats 8000000 in
theorem law4_walk (A : List WA) (v : Value) (w : World) (h : ArgOK w v A) (hS : Sized A) :
    Calls Try.prog 4 #[v] w fun e w' => e = .returned (.bool true) ∧ Below w.heap.size w w' := by
  have ke := fun (wx : World) (a : Option Addr) (n c : Nat) => Lib.run_eql_slice_nil (P := Try.prog) wx 25 38 a n c 0 0 Try.underlying25
  obtain ⟨i39, hi39, hz390, hz391, hz392⟩ := info_parts Try.info39
  obtain ⟨a, c, hv⟩ := h.shape
  subst hv
  have H := hid_mk h
  have HS := hid_mk hS
  clear h hS
  go_enter Try.func4, Try.ntmps4
  go_wp2_with fail
  refine (bytes13_any A _ w H.out HS.out).mono ?_
  rintro e w' ⟨⟨x, rfl⟩, h'⟩
  have h'' := h'.symm; clear h'; subst h''
  cases x
  · go_wp2
    go_ret
    exact ⟨rfl, Below.refl _ _⟩
  by_cases hbig : 4096 < A.length
  · go_wp2
    go_ret
    exact ⟨rfl, Below.refl _ _⟩
  go_wp2_with fail
  refine (small_any A _ (by omega) w H.out HS.out).mono ?_
  rintro e w' ⟨⟨x, rfl, hq⟩, h'⟩
  have h'' := h'.symm; clear h'; subst h''
  cases x
  · clear hq
    go_wp2
    go_ret
    exact ⟨rfl, Below.refl _ _⟩
  have HQ := hid_mk (hq rfl)
  have hlen : A.length ≤ 4096 := by omega
  clear hq hbig
  go_wp2_with fail
  refine (clone_any A _ hlen HQ.out w H.out).mono ?_
  rintro e w1 ⟨a1, c1, rfl, o1, b1⟩
  have O1 := hid_mk o1; have B1 := hid_mk b1
  clear o1 b1
  go_wp2_with fail
  refine (clone_any A _ hlen HQ.out w1 O1.out.arg).mono ?_
  rintro e w2 ⟨a2, c2, rfl, o2, b2⟩
  have O2 := hid_mk o2; have B2 := hid_mk b2
  clear o2 b2
  go_wp2_with fail
  refine (build_any A _ hlen w2 O2.out).mono ?_
  rintro e w3 ⟨a3, c3, rfl, o3, b3⟩
  have O3 := hid_mk o3; have B3 := hid_mk b3
  clear o3 b3
  go_wp2_with fail
  refine (zztake_any A _ hlen (fun a h => (HS.out a h).1) w3 O3.out).mono ?_
  rintro e w4 ⟨b4, ra, rc, ga, gc, rfl, r4, g4⟩
  have bt : Below w.heap.size w w4 := B1.out.trans ((B2.out.trans ((B3.out.trans (b4.mono B3.out.size)).mono B2.out.size)).mono B1.out.size)
  have HL : Hid (L3 A w4 w4 (.slice a1 A.length c1) (.slice ra (recsA A).length rc) (.slice ga (gonesA A).length gc)) := hid_mk ⟨Below.refl _ _, O1.out.stays (B2.out.trans ((B3.out.trans (b4.mono B3.out.size)).mono B2.out.size)), r4, g4⟩
  have BT := hid_mk bt
  clear bt b4 r4 g4 O1 O2 O3 B1 B2 B3 H
  go_wp2
  go_loopw [5, 6] (fun v5 v6 wr => ∃ k n : Nat, k ≤ A.length ∧ n ≤ k ∧ v5 = .int .i64 (n : Int) ∧ v6 = .int .i64 (k : Int) ∧ Hid (n = (firstsTo (nmsOf A) k).length) ∧ Hid (L3 A w4 wr (.slice a1 A.length c1) (.slice ra (recsA A).length rc) (.slice ga (gonesA A).length gc))) (fun _ v6 _ => A.length - (intOf v6).toNat)
  case atStart => exact ⟨0, 0, by omega, by omega, rfl, rfl, hid_mk rfl, HL⟩
  case round =>
    obtain ⟨k, n, hk, hnk, rfl, rfl, HC, hL⟩ := hrel
    clear HL
    by_cases hlt : k < A.length
    · obtain ⟨g0, ha1, hws⟩ : ∃ g0, a1 = some ⟨g0, 0, none⟩ ∧ Hid (WsAt wr g0 0 A) := by
        rcases hL.out.2.1 with ⟨e, _⟩ | ⟨g0, cap0, e, hws⟩
        · rw [e] at hlt; simp at hlt
        · injection e with e1 e2 e3
          exact ⟨g0, e1, hws⟩
      subst ha1
      clear ke
      go_wp2_with fail
      refine (first_walk A g0 c1 k hlt (by omega) wr hws.out).mono ?_
      rintro e w' ⟨rfl, q, rfl⟩
      have HL2 := hid_mk (hL.out.stays (below_drewN (Below.refl _ _) q))
      cases hf : isFirst (nmsOf A) k
      · have HC2 : Hid (n = (firstsTo (nmsOf A) (k + 1)).length) := hid_mk (by rw [firstsTo_no hf]; exact HC.out)
        go_wp2
        go_roundw
        case rel => exact ⟨k + 1, n, by omega, by omega, rfl, by go_num, HC2, HL2⟩
        case measure => simp [intOf]; omega
      · have HC2 : Hid (n + 1 = (firstsTo (nmsOf A) (k + 1)).length) := hid_mk (by rw [firstsTo_yes hf, List.length_append, ← HC.out]; rfl)
        go_wp2
        go_roundw
        case rel => exact ⟨k + 1, n + 1, by omega, by omega, by go_num, by go_num, HC2, HL2⟩
        case measure => simp [intOf]; omega
    · have hke : k = A.length := by omega
      subst hke
      rename World => w5
      obtain ⟨al1, al2, al3⟩ := again_len A
      have hn : n = (recsA A).length + (gonesA A).length := by rw [HC.out, al1]
      have BT5 := hid_mk (BT.out.trans (hL.out.1.mono BT.out.size))
      have HR5 := hid_mk hL.out.2.2.1
      have HG5 := hid_mk hL.out.2.2.2
      obtain ⟨wm, hmk, hown0, hgr0⟩ := run_make_own (P := Try.prog) w5 w5.heap.size 29 39 i39 _ 1 Try.underlying29 hi39 hz390 hz391 .i64 .i64 n (by rw [hz392]; omega) (by unfold maxLen; omega) (Nat.le_refl _)
      have HAG : Hid (AG (againA A) w5 wm (.slice (some ⟨w5.heap.size, 0, none⟩) 0 n) []) := hid_mk ⟨hown0, fun j h => by simp at h, (Below.refl _ _).grown hgr0 (Nat.le_refl _) (by intro k h; cases h), by simp⟩
      have ht : ((recsA A).length : Int) + ((gonesA A).length : Int) = (n : Int) := by omega
      obtain ⟨bm, HBM⟩ : ∃ bm, Hid (w5.heap.size = bm) := ⟨_, rfl⟩
      rw [HBM.out] at hmk HAG
      clear hown0 hgr0 hL HC BT al1 hk hnk hlt hn
      go_wp2
      go_loopw [7, 8] (fun v7 v8 wr => ∃ ps : List Nat, ps.length ≤ (recsA A).length ∧ v8 = .int .i64 (ps.length : Int) ∧ Hid (AG (againA A) w5 wr v7 ps)) (fun _ v8 _ => (recsA A).length - (intOf v8).toNat)
      case atStart => exact ⟨[], by simp, rfl, HAG⟩
      case round =>
        obtain ⟨ps, hpl, rfl, hAG⟩ := hrel
        clear HAG hmk
        obtain ⟨na, nc, hnv⟩ := own_shape hAG.out.1
        subst hnv
        have hsz := hAG.out.2.2.1.size
        by_cases hlt : ps.length < (recsA A).length
        · obtain ⟨gr, va, vn, vc, hra, c0, c1, hqv, c2, c3⟩ := rec_cells HR5.out ps.length hlt
          subst hra
          have hgr := World.block_lt_of_cell? w5 _ c0
          simp only at hgr
          have hbw := hAG.out.2.2.1
          have c0 := cell_stays c0 hbw; have c1 := cell_stays c1 hbw; have c2 := cell_stays c2 hbw; have c3 := cell_stays c3 hbw
          obtain ⟨hB, hBe⟩ := again_rec A ps.length hlt
          have hown := hAG.out.1
          have hrp : (Value.slice na ps.length nc).ownBlock ≠ some gr := fun e => by have := (hown.lt gr e).1; omega
          have hnx := fun wa w' (hwa : Below wr.heap.size wr wa) hnew g cap => AG.next (wa := wa) (w' := w') hAG.out hB hwa hnew (g := g) (cap := cap)
          have hwk := fun wa (e1 e2 e3 e4 : Value) => wk_new (w5 := w5) (wa := wa) (p := wr.heap.size) (a := (againA A)[ps.length]) (v := .slice va vn vc) (e1 := e1) (e2 := e2) (e3 := e3) (e4 := e4) (by rw [hBe]; exact hqv)
          rw [hBe] at hnx hwk
          have HNX := hid_mk hnx
          have HWK := hid_mk hwk
          clear hnx hwk hBe hqv hAG hbw
          generalize (recsA A)[ps.length] = x at *
          obtain ⟨nm, oq, st, ttl⟩ := x
          simp only [inR] at c0 c2 c3 HNX HWK
          generalize hpe : ps.length = pl at *
          have HPE := hid_mk hpe
          clear hpe
          generalize ptrs ps = xp at *
          clear ke
          go_wp2
          go_region_held3 (fun w' => w'.cell? ⟨gr, pl * 4, none⟩ = some (.string nm) ∧ w'.cell? ⟨gr, pl * 4 + 1, none⟩ = some (.slice va vn vc) ∧ w'.cell? ⟨gr, pl * 4 + 2, none⟩ = some (.string st) ∧ w'.cell? ⟨gr, pl * 4 + 3, none⟩ = some (.int .i64 ttl))
            (first | go_keep | (go_split_ands; refine ⟨?_, ?_, ?_, ?_⟩ <;> (rw [hgrow1.cell_far _ (by simp; omega) (Ne.symm hrp)]; assumption)))
            (first
              | (go_at_call 14; refine (new_walk nm va vn vc st ttl true _).mono ?_; rintro e w' ⟨rfl, e1, e2, e3, e4, rfl⟩)
              | (refine step_append_lies _ (by rfl) (.tmp 61) (.tmp 83) 29 (by rfl) w5.heap.size 39 i39 _ 1 8 Try.underlying29 hi39 hz390 hz391 hz392 rfl (by decide) (.slice na pl nc) pl xp (by rfl) (own_below hown (by first | exact (((Below.refl _ _).alloc (Nat.le_refl _) _).alloc (by simp) _).drew | exact ((below_drewN (Below.refl _ _) 1).alloc (by simp) _).alloc (by simp) _)) ⟨wr.heap.size + 1, 0, none⟩ 1 1 [.pointer (some ⟨wr.heap.size, 0, none⟩)] (by rfl) (by rfl) (World.news_of_block (cs := #[.pointer (some ⟨wr.heap.size, 0, none⟩)]) (t := 39) (fr := (0, 0)) (new_at _ _ (by simp))) (by simp [Value.oneCell']) (by decide) (by unfold maxLen; omega) (by omega) (by simp; omega) _ rfl ?_; intro g1 cap1 w1 hown1 hgrow1 hat1 hlt1)
              | fail)
          have HN := hid_mk (HNX.out _ w1 ((((Below.refl _ _).alloc (Nat.le_refl _) _).alloc (by simp) _).drew) (HWK.out _ e1 e2 e3 e4 ((Below.heap_alloc (wr.alloc _) _ _ (by simp)).trans (heap_alloc_new wr _))) g1 cap1 hown1 hgrow1 hat1)
          clear hown1 hgrow1 hat1 hlt1 HNX HWK c0 c1 c2 c3 hown hrp
          go_wp2
          go_roundw
          case rel => exact ⟨ps ++ [wr.heap.size], by simp [HPE.out]; omega, by simp [HPE.out], HN⟩
          case measure => simp [intOf]; omega
        · have hpe : ps.length = (recsA A).length := by omega
          have HAG3 := hid_mk hAG.out
          clear hAG hlt hpl
          rw [hpe]
          go_wp2
          go_loopw [7, 9] (fun v7 v9 wr => ∃ (ps : List Nat) (j : Nat), j ≤ (gonesA A).length ∧ v9 = .int .i64 (j : Int) ∧ Hid (ps.length = (recsA A).length + j) ∧ Hid (AG (againA A) w5 wr v7 ps)) (fun _ v9 _ => (gonesA A).length - (intOf v9).toNat)
          case atStart => exact ⟨ps, 0, by omega, rfl, hid_mk hpe, by rw [← hpe]; exact HAG3⟩
          case round =>
            clear HAG3 hpe
            obtain ⟨ps, j, hj, rfl, HPE, hAG⟩ := hrel
            obtain ⟨na, nc, hnv⟩ := own_shape hAG.out.1
            subst hnv
            have hsz := hAG.out.2.2.1.size
            rw [HPE.out]
            by_cases hlt : j < (gonesA A).length
            · obtain ⟨gg, hga, c0⟩ := gone_cells HG5.out j hlt
              subst hga
              have hbw := hAG.out.2.2.1
              have c0 := cell_stays c0 hbw
              obtain ⟨hB, hBe⟩ := again_gone A j hlt
              have hB' : ps.length < (againA A).length := by rw [HPE.out]; exact hB
              have hown := hAG.out.1
              have hBe' : (againA A)[ps.length] = inG (gonesA A)[j] := by rw [← hBe]; congr 1
              have hnx := fun wa w' (hwa : Below wr.heap.size wr wa) hnew g cap => AG.next (wa := wa) (w' := w') hAG.out hB' hwa hnew (g := g) (cap := cap)
              have hwk := fun wa (e1 e2 e3 e4 : Value) => wk_new (w5 := w5) (wa := wa) (p := wr.heap.size) (a := (againA A)[ps.length]) (v := .slice none 0 0) (e1 := e1) (e2 := e2) (e3 := e3) (e4 := e4) (by rw [hBe']; exact .inl ⟨rfl, rfl⟩)
              rw [hBe'] at hnx hwk
              rw [HPE.out] at hnx hown
              have HNX := hid_mk hnx
              have HWK := hid_mk hwk
              clear hnx hwk hBe hBe' hAG hbw hB'
              generalize (gonesA A)[j] = nm at *
              simp only [inG] at HNX HWK
              generalize hpl : (recsA A).length + j = pl at *
              have HPL := hid_mk hpl
              generalize ptrs ps = xp at *
              clear ke hpl
              go_wp2_with fail
              refine (new_walk nm none 0 0 ⟨#[]⟩ 0 false wr).mono ?_
              rintro e w' ⟨rfl, e1, e2, e3, e4, rfl⟩
              go_wp2_with (at_builtin; refine wpList_append_lies _ rfl (.tmp 91) (.tmp 97) 29 rfl w5.heap.size 39 i39 _ 1 8 Try.underlying29 hi39 hz390 hz391 hz392 rfl (by decide) (.slice na pl nc) pl xp rfl (own_below hown (((Below.refl _ _).alloc (Nat.le_refl _) _).alloc (by simp) _)) ⟨wr.heap.size + 1, 0, none⟩ 1 1 [.pointer (some ⟨wr.heap.size, 0, none⟩)] rfl rfl (World.news_of_block (cs := #[.pointer (some ⟨wr.heap.size, 0, none⟩)]) (t := 39) (fr := (0, 0)) (new_at _ _ (by simp))) (by simp [Value.oneCell']) (by decide) (by unfold maxLen; omega) (by omega) (by simp; omega) _ rfl ?_; intro g1 cap1 w1 hown1 hgrow1 hat1 hlt1; have HN := hid_mk (HNX.out _ w1 (((Below.refl _ _).alloc (Nat.le_refl _) _).alloc (by simp) _) (HWK.out _ e1 e2 e3 e4 ((Below.heap_alloc (wr.alloc _) _ _ (by simp)).trans (heap_alloc_new wr _))) g1 cap1 hown1 hgrow1 hat1); clear hown1 hgrow1 hat1 hlt1)
              case roundEnd => exact ⟨⟨ps ++ [wr.heap.size], j + 1, by omega, by go_num, hid_mk (by have h1 := HPE.out; have h2 := HPL.out; simp; omega), HN⟩, by simp [intOf]; omega⟩
            · have hje : j = (gonesA A).length := by omega
              have hcall := hAG.out.done (by rw [HPE.out, al3]; omega) (by omega) (again_names (fun a h => (HS.out a h).1))
              have hzz := zztake_of _ _ _ hcall
              rw [(again_same A).1, (again_same A).2, HPE.out] at hzz
              have HZ := hid_mk hzz
              have B56 := hid_mk hAG.out.2.2.1
              clear hAG hcall hzz hsz hje
              rename World => w6
              go_wp2_with fail
              refine HZ.out.mono ?_
              rintro e w7 ⟨b7, ra2, rc2, ga2, gc2, rfl, r7, g7⟩
              have b57 : Below w5.heap.size w5 w7 := B56.out.trans (b7.mono B56.out.size)
              have BT7 := hid_mk (BT5.out.trans (b57.mono BT5.out.size))
              have HR := hid_mk (HR5.out.stays b57)
              have HR2 := hid_mk r7
              have HQ1 := hid_mk g7.q
              have HQ2 := hid_mk (HG5.out.stays b57).q
              have HGL : Hid (∀ ss, goneQ (gonesA A) = some ss → ss.length ≤ 1048576) := hid_mk (goneQ_len (by omega))
              clear b7 r7 g7 b57 HZ HR5 HG5 BT5 B56 HPE HS
              by_cases hnil : recsA A = []
              · obtain ⟨hra, hrc, hra2, hrc2⟩ : ra = none ∧ rc = 0 ∧ ra2 = none ∧ rc2 = 0 := by
                  rcases HR.out with ⟨_, e⟩ | ⟨e, _⟩
                  · rcases HR2.out with ⟨_, e2⟩ | ⟨e2, _⟩
                    · injection e with e1 _ e3
                      injection e2 with e4 _ e6
                      exact ⟨e1, e3, e4, e6⟩
                    · exact absurd hnil e2
                  · exact absurd hnil e
                subst hra hrc hra2 hrc2
                have hl0 : (recsA A).length = 0 := by rw [hnil]; rfl
                clear HR HR2 hnil
                generalize (recsA A).length = nr at *
                subst hl0
                go_wp2
                go_loop [12] (fun i => i = .int .i64 0) (fun _ => 0)
                case atStart => rfl
                case round =>
                  subst hrel
                  go_wp2_with fail
                  refine (strs_walk _ _ _ HGL.out _ HQ1.out HQ2.out).mono ?_
                  rintro e w' ⟨rfl, q, rfl⟩
                  go_wp2
                  go_ret
                  exact ⟨rfl, below_drewN BT7.out q⟩
              · obtain ⟨gr, gr2, hra, hra2⟩ : ∃ gr gr2, ra = some ⟨gr, 0, none⟩ ∧ ra2 = some ⟨gr2, 0, none⟩ := by
                  rcases HR.out with ⟨e, _⟩ | ⟨_, gr, c, e, _⟩
                  · exact absurd e hnil
                  · rcases HR2.out with ⟨e2, _⟩ | ⟨_, gr2, c2, e2, _⟩
                    · exact absurd e2 hnil
                    · injection e with e1 _ e3
                      injection e2 with e4 _ e6
                      exact ⟨gr, gr2, e1, e4⟩
                subst hra hra2
                go_wp2
                go_loopw [12] (fun v12 wr => ∃ k : Nat, k ≤ (recsA A).length ∧ v12 = .int .i64 (k : Int) ∧ Hid (Below w7.heap.size w7 wr)) (fun v12 _ => (recsA A).length - (intOf v12).toNat)
                case atStart => exact ⟨0, by omega, rfl, hid_mk (Below.refl _ _)⟩
                case round =>
                  obtain ⟨k, hk, rfl, HB⟩ := hrel
                  by_cases hlt : k < (recsA A).length
                  · obtain ⟨x1, va, vn, vc, h1, c0, c1, hqv, c2, c3⟩ := rec_cells (HR.out.stays HB.out) k hlt
                    obtain ⟨x2, va2, vn2, vc2, h2, d0, d1, hqv2, d2, d3⟩ := rec_cells (HR2.out.stays HB.out) k hlt
                    obtain rfl : gr = x1 := by simpa using h1
                    obtain rfl : gr2 = x2 := by simpa using h2
                    have HQL : Hid (∀ ss, (recsA A)[k].2.1 = some ss → ss.length ≤ 1048576) := hid_mk (fun ss e => by
                      obtain ⟨b, hb, hbe⟩ := recs_mem (List.getElem_mem hlt)
                      rw [hbe] at e
                      have := HQ.out b hb ss e
                      omega)
                    have HV1 := hid_mk hqv
                    have HV2 := hid_mk hqv2
                    clear h1 h2 hqv hqv2 ke
                    generalize (recsA A)[k] = x at *
                    obtain ⟨nm, oq, st, ttl⟩ := x
                    simp only at c0 c2 c3 d0 d2 d3
                    go_wp2
                    go_region_held3 (fun w' => w'.cell? ⟨gr, k * 4, none⟩ = some (.string nm) ∧ w'.cell? ⟨gr, k * 4 + 1, none⟩ = some (.slice va vn vc) ∧ w'.cell? ⟨gr, k * 4 + 2, none⟩ = some (.string st) ∧ w'.cell? ⟨gr, k * 4 + 3, none⟩ = some (.int .i64 ttl) ∧ w'.cell? ⟨gr2, k * 4, none⟩ = some (.string nm) ∧ w'.cell? ⟨gr2, k * 4 + 1, none⟩ = some (.slice va2 vn2 vc2) ∧ w'.cell? ⟨gr2, k * 4 + 2, none⟩ = some (.string st) ∧ w'.cell? ⟨gr2, k * 4 + 3, none⟩ = some (.int .i64 ttl))
                      (first | go_keep | (go_split_ands; refine ⟨?_, ?_, ?_, ?_, ?_, ?_, ?_, ?_⟩ <;> exact cell_stays (by assumption) hb15))
                      (first
                        | (go_at_call 15; refine (rec_walk nm st ttl oq va2 va vn2 vc2 vn vc HQL.out _ (HV2.out.stays (below_drewN (Below.refl _ _) 1)) (HV1.out.stays (below_drewN (Below.refl _ _) 1))).mono ?_; rintro e wy ⟨rfl, hb15⟩)
                        | fail)
                    have HN := hid_mk (HB.out.trans (((below_drewN (Below.refl wr.heap.size wr) 1).trans hb15).mono HB.out.size))
                    clear hb15 c0 c1 c2 c3 d0 d1 d2 d3
                    go_wp2
                    go_roundw
                    case rel => exact ⟨k + 1, by omega, by go_num, HN⟩
                    case measure => simp [intOf]; omega
                  · go_wp2_with fail
                    refine (strs_walk _ _ _ HGL.out _ (HQ1.out.stays HB.out) (HQ2.out.stays HB.out)).mono ?_
                    rintro e w' ⟨rfl, q, rfl⟩
                    go_wp2
                    go_ret
                    exact ⟨rfl, below_drewN (BT7.out.trans (HB.out.mono BT7.out.size)) q⟩
end Go.Proofs.Qxb6630079a
