import Derived.Test.Qxb6630079aTake
namespace Go.Proofs.Qxb6630079a
open Go.RowKit

theorem own_shape {w : World} {base e size n : Nat} {v : Value} {xs : List Value} (h : w.ownsRow base e size v n xs) : ∃ a c, v = .slice a n c := by
  rcases h.2 with ⟨rfl, rfl⟩ | ⟨g, cap, _, rfl, _⟩
  · exact ⟨_, _, rfl⟩
  · exact ⟨_, _, rfl⟩
theorem choose_q {w : World} {c : Nat} {ps : List Nat} {A : List WA} (h : PsAt w c ps A) : ∃ qf : Nat → Value, ∀ j (hj : j < A.length) (hj' : j < ps.length), w.cell? ⟨ps[j], 1, none⟩ = some (qf j) ∧ Q w (qf j) A[j].2.1 := by
  have : ∀ j, ∃ v, ∀ (hj : j < A.length) (hj' : j < ps.length), w.cell? ⟨ps[j], 1, none⟩ = some v ∧ Q w v A[j].2.1 := by
    intro j
    by_cases hj : j < A.length
    · have hj' : j < ps.length := by rw [h.1]; exact hj
      obtain ⟨_, _, ⟨v, h2, h3⟩, _⟩ := h.2 j hj hj'
      exact ⟨v, fun _ _ => ⟨h2, h3⟩⟩
    · exact ⟨.bool false, fun h => absurd h hj⟩
  exact ⟨fun j => (this j).choose, fun j => (this j).choose_spec⟩

set_option maxHeartbeats 1000000 in
theorem take_empty (a : Option Addr) (cap : Nat) (w : World) : Calls Try.prog 17 #[.slice a 0 cap] w (TakeEnds [] w) := by
  have hmm : ∀ w, (Instr.makeMap 49 (some (.int .i64 0))).run Try.prog w = .ok (.map (some w.heap.size)) (w.alloc (.map #[] 0)) := make_map 0
  go_enter Try.func17, Try.ntmps17
  go_wp2
  go_loop [5, 18] (fun v i => v = .slice none 0 0 ∧ i = .int .i64 0) (fun _ _ => 0)
  case atStart => exact ⟨rfl, rfl⟩
  case round =>
    obtain ⟨rfl, rfl⟩ := hrel
    go_wp2
    go_loop [8, 9, 45] (fun a b i => a = .slice none 0 0 ∧ b = .slice none 0 0 ∧ i = .int .i64 0) (fun _ _ _ => 0)
    case atStart => exact ⟨rfl, rfl, rfl⟩
    case round =>
      obtain ⟨rfl, rfl, rfl⟩ := hrel
      go_wp2
      go_ret2
      exact ⟨(Below.refl _ _).alloc (Nat.le_refl _) _, _, _, rfl, .inl ⟨rfl, rfl⟩, .inl ⟨rfl, rfl⟩⟩

set_option maxRecDepth 100000 in
set_option maxHeartbeats 4000000 in
/-- 'takeWorkers'. -/
theorem take_walk (A : List WA) (ps : List Nat) (c cap : Nat) (hlen : A.length ≤ 4096) (hnm : ∀ a ∈ A, a.1.size ≤ maxLen) (w : World) (hP : PsAt w c ps A) :
    Calls Try.prog 17 #[.slice (some ⟨c, 0, none⟩) A.length cap] w (TakeEnds A w) := by
  obtain ⟨i9, hi9, hz90, hz91, hz92⟩ := info_parts Try.info9
  obtain ⟨i38, hi38, hz380, hz381, hz382⟩ := info_parts Try.info38
  have hmm := make_map A.length
  have HP := hid_mk hP
  have hpl := hP.1
  obtain ⟨qf, hqf⟩ := choose_q hP
  have HQF := hid_mk hqf
  have HT := hid_mk (T1.start A ps w)
  obtain ⟨M, HM⟩ : ∃ M, Hid (w.heap.size = M) := ⟨_, rfl⟩
  clear hP hqf
  go_enter Try.func17, Try.ntmps17
  go_wp2
  rw [HM.out]
  go_loopw [5, 18] (fun v5 vi wr => ∃ k : Nat, k ≤ A.length ∧ Hid (T1 A ps w wr k v5) ∧ vi = .int .i64 (k : Int)) (fun _ vi _ => A.length - (intOf vi).toNat)
  case atStart => exact ⟨0, by omega, HT, rfl⟩
  case round =>
    obtain ⟨k, hk, hT, rfl⟩ := hrel
    clear hmm HT
    obtain ⟨na, nc, hnv⟩ := own_shape hT.out.2.1
    subst hnv
    by_cases hlt : k < A.length
    · obtain ⟨c1, hwk⟩ := HP.out.2 k hlt (by omega)
      have hs : (nmA A k).size ≤ maxLen := by rw [nmA, getD_at A k hlt]; exact hnm _ (List.getElem_mem hlt)
      have c2 : w.cell? ⟨ps[k], 0, none⟩ = some (.string (nmA A k)) := by rw [nmA, getD_at A k hlt]; exact hwk.1
      have hpk : ps.getD k 0 = ps[k] := by simp [List.getD, show k < ps.length by omega]
      have hplt := hwk.lt
      have HPK := hid_mk hpk
      clear hwk hpk
      generalize ps[k] = p at *
      have hbel := hT.out.2.2
      have d1 := cell_stays c1 hbel
      have d2 := cell_stays c2 hbel
      have hszw := hT.out.size
      rw [HM.out] at hszw hplt
      cases hf : isFirst (nmsOf A) k
      · obtain ⟨j, hj⟩ := first_some hlt hf
        have hlook := hT.out.1.look_some hs (p := ps.getD j 0) (by show Option.map _ _ = _; rw [hj]; rfl)
        obtain ⟨w2, hrun2, hT2⟩ := hT.out.again hlt (by omega) hf hs p HPK.out
        rw [HM.out] at hlook hrun2
        have HT2 := hid_mk hT2
        clear hbel c1 c2 hT2 hj
        generalize nmA A k = s at *
        go_wp2
        go_roundw
        case rel => exact ⟨k + 1, by omega, HT2, by go_num⟩
        case measure => simp [intOf]; omega
      · have hlook := hT.out.1.look_none hs (by show Option.map _ _ = _; rw [first_none hlt hf]; rfl)
        have hfl := firstsTo_len (nmsOf A) k
        have hown := hT.out.2.1
        rw [HM.out] at hlook hown
        have hfresh := fun w1 nv' o h1 h2 => T1.fresh (w1 := w1) (nv' := nv') (o := o) hT.out hlt (by omega) hf hs p HPK.out h1 h2
        rw [HM.out] at hfresh
        have HF := hid_mk hfresh
        clear hbel c1 c2 hfresh
        generalize nmA A k = s at *
        go_wp2_with (at_builtin; refine wpList_append_own _ rfl (.tmp 29) (.tmp 34) 26 rfl (M + 1) 9 i9 (.string ⟨#[]⟩) 1 16 Try.underlying26 hi9 hz90 hz91 hz92 rfl (by decide) _ _ _ rfl (hown.alloc _) ⟨wr.heap.size, 0, none⟩ 1 1 [.string s] rfl rfl (cell_one_new _ _ _) (by simp [Value.oneCell']) (by unfold maxLen; omega) (by omega) (by simp; omega) ?_; intro nv1 w1 hown1 hgrow1 _; obtain ⟨w2, hrun2, hT2⟩ := HF.out w1 nv1 _ hown1 hgrow1; have e2 : w1.cell? ⟨p, 0, none⟩ = some (.string s) := hgrow1.cell ((World.cell?_of_block (a := ⟨p, 0, none⟩) (Below.heap_alloc wr _ p (by omega))).trans d2) (fun e => by have := (hown.lt p e.symm).1; omega); have HT2 := hid_mk hT2; clear hT2 hown1 hgrow1)
        case roundEnd => exact ⟨⟨k + 1, by omega, HT2, by go_num⟩, by simp [intOf]; omega⟩
    · have hke : k = A.length := by omega
      subst hke
      clear hlt hk
      rename World => wo
      have HS := hid_mk (T2.start A qf wo)
      obtain ⟨F, HF⟩ : ∃ F, Hid (firstsTo (nmsOf A) A.length = F) := ⟨_, rfl⟩
      have hfl := firstsTo_len (nmsOf A) A.length
      have hbo := hT.out.2.2
      have hszo := hT.out.size
      have hown := hT.out.2.1
      rw [HF.out] at hfl hown ⊢
      have HO := hid_mk hown
      clear hown
      go_wp2
      go_loopw [8, 9, 45] (fun v8 v9 vi wr => ∃ t : Nat, t ≤ F.length ∧ Hid (T2 A qf wo wr t v8 v9) ∧ vi = .int .i64 (t : Int)) (fun _ _ vi _ => F.length - (intOf vi).toNat)
      case atStart => exact ⟨0, by omega, HS, rfl⟩
      case round =>
        obtain ⟨t, ht, hT2, rfl⟩ := hrel
        clear HS
        obtain ⟨ra, rc, hrv⟩ := own_shape hT2.out.1
        obtain ⟨ga, gc, hgv⟩ := own_shape hT2.out.2.1
        subst hrv hgv
        have hbw := hT2.out.2.2.2.1
        by_cases hlt : t < F.length
        · obtain ⟨i, hi⟩ : ∃ i, F[t] = i := ⟨_, rfl⟩
          have hmem : i ∈ firstsTo (nmsOf A) A.length := by rw [HF.out, ← hi]; exact List.getElem_mem hlt
          have hia := (firstsTo_mem.1 hmem).1
          obtain ⟨l1, l2, l3, l4⟩ := lastOf_spec (N := nmsOf A) (i := i) (by rw [nmsOf_len]; exact hia)
          rw [nmsOf_len] at l1 l3
          rw [nms_nm A i hia] at l1 l4
          rw [nms_nm A _ l3] at l4
          obtain ⟨g, nc', hform, hg1, hg2⟩ := HO.out.form (by omega)
          injection hform with e1 e2 e3
          subst e1 e3
          have c0 : wo.cell? ⟨g, t, none⟩ = some (.string (nmA A i)) := by rw [HO.out.cellAt t (by omega)]; simp [names, hlt, hi]
          have d0 := cell_stays c0 hbw
          have hs : (nmA A i).size ≤ maxLen := by rw [nmA, getD_at A i hia]; exact hnm _ (List.getElem_mem hia)
          have hlook := (hT.out.1.below (hbw.mono (by omega))).look_some hs (p := ps.getD (lastOf (nmsOf A) i) 0) (by show Option.map _ _ = _; rw [l1]; rfl)
          obtain ⟨hc, hwk⟩ := HP.out.2 (lastOf (nmsOf A) i) l3 (by omega)
          obtain ⟨w1, w2⟩ := HQF.out (lastOf (nmsOf A) i) l3 (by omega)
          have hplt := hwk.lt
          obtain ⟨p0, _, p2, p3, p8⟩ := hwk
          have hpj : ps.getD (lastOf (nmsOf A) i) 0 = ps[lastOf (nmsOf A) i]'(by omega) := by simp [List.getD, show lastOf (nmsOf A) i < ps.length by omega]
          rw [hpj, HM.out] at hlook
          have htrans : Below w.heap.size w wr := hbo.trans (hbw.mono (by omega))
          have q0 := cell_stays p0 htrans; have q1 := cell_stays w1 htrans; have q2 := cell_stays p2 htrans; have q3 := cell_stays p3 htrans; have q8 := cell_stays p8 htrans
          obtain ⟨va, vn, vc, hqs⟩ := w2.shape
          have hrlt := hT2.out.1.lt
          have hszr := hbw.size
          have hrp : ∀ p, p < w.heap.size → (Value.slice ra (rgs A t).length rc).ownBlock ≠ some p := fun p hp e => by have := (hT2.out.1.lt p e).1; omega
          have hrp := hrp _ hplt
          have hrle := rgs_le A t
          have hrr : regA A (lastOf (nmsOf A) i) = A[lastOf (nmsOf A) i].2.2.2.2 := by rw [regA, getD_at A _ l3]
          have hrc : rc4 A qf (lastOf (nmsOf A) i) = [.string A[lastOf (nmsOf A) i].1, qf (lastOf (nmsOf A) i), .string A[lastOf (nmsOf A) i].2.2.1, .int .i64 A[lastOf (nmsOf A) i].2.2.2.1] := by rw [rc4, getD_at A _ l3]
          have hrec := fun h wa w' (hwa : Below wr.heap.size wr wa) g cap => T2.rec (wa := wa) (w' := w') hT2.out (by rw [HF.out]; exact hlt) (i := i) (by simp only [HF.out]; exact hi) h hwa (g := g) (cap := cap)
          have hgone := fun h wa w' (hwa : Below wr.heap.size wr wa) g cap => T2.gone (wa := wa) (w' := w') hT2.out (by rw [HF.out]; exact hlt) (i := i) (by simp only [HF.out]; exact hi) h hwa (g := g) (cap := cap)
          rw [hrr, hrc] at hrec
          rw [hrr] at hgone
          have HREC := hid_mk hrec
          have HGONE := hid_mk hgone
          have hown8 := hT2.out.1
          have hown9 := hT2.out.2.1
          rw [hqs] at q1 HREC
          clear hrec hgone c0 hc p0 p2 p3 p8 w1 w2 hpj htrans hrr hrc hqs l1 l2 l4 hbw hmem hi
          generalize nmA A i = s at *
          generalize A[lastOf (nmsOf A) i] = a at *
          generalize ps[lastOf (nmsOf A) i] = p at *
          generalize (rgs A t).length = nr at *
          generalize (gns A t).length = ng at *
          generalize rcs A qf (lasts A (rgs A t)) = xr at *
          generalize names A (gns A t) = xg at *
          obtain ⟨nm, oq, st, ttl, rg⟩ := a
          simp only at q0 q2 q3 q8 HREC HGONE
          cases rg
          · go_wp2_with (at_builtin; (refine wpList_append_lies _ rfl (.tmp 76) (.tmp 78) 26 rfl wo.heap.size 9 i9 (.string ⟨#[]⟩) 1 16 Try.underlying26 hi9 hz90 hz91 hz92 rfl (by decide) (.slice ga ng gc) ng xg rfl (hown9.alloc _) ⟨wr.heap.size, 0, none⟩ 1 1 [.string s] rfl rfl (cell_one_new _ _ _) (by simp [Value.oneCell']) (by decide) (by unfold maxLen; omega) (by omega) (by simp; omega) _ rfl ?_; intro g1 cap1 w1 hown1 hgrow1 hat1 hlt1; have HN := hid_mk (HGONE.out rfl _ w1 ((Below.refl _ _).alloc (Nat.le_refl _) _) g1 cap1 hown1 hgrow1 hat1); clear hown1 hgrow1 hat1))
            case roundEnd => exact ⟨⟨t + 1, by omega, HN, by go_num⟩, by simp [intOf]; omega⟩
          · go_wp2
            go_region_held3 (fun w' => w'.cell? ⟨p, 0, none⟩ = some (.string nm) ∧ w'.cell? ⟨p, 1, none⟩ = some (.slice va vn vc) ∧ w'.cell? ⟨p, 2, none⟩ = some (.string st) ∧ w'.cell? ⟨p, 3, none⟩ = some (.int .i64 ttl)) (first | go_keep | (go_split_ands; refine ⟨?_, ?_, ?_, ?_⟩ <;> (rw [hgrow1.cell_far _ (by simp; omega) (Ne.symm hrp)]; assumption)))
              ((refine step_append_lies _ (by rfl) (.tmp 56) (.tmp 74) 25 (by rfl) wo.heap.size 38 i38 _ 4 64 Try.underlying25 hi38 hz380 hz381 hz382 rfl (by decide) (.slice ra nr rc) nr xr (by rfl) ((hown8.alloc _).drew) ⟨wr.heap.size, 0, none⟩ 1 1 [.string nm, .slice va vn vc, .string st, .int .i64 ttl] (by rfl) (by rfl) (World.news_of_block (cs := #[.string nm, .slice va vn vc, .string st, .int .i64 ttl]) (t := 38) (fr := (0, 0)) (heap_alloc_new wr _)) (by simp [Value.oneCell']) (by decide) (by unfold maxLen; omega) (by omega) (by simp; omega) _ rfl ?_; intro g1 cap1 w1 hown1 hgrow1 hat1 hlt1))
            have HN := hid_mk (HREC.out (by trivial) _ w1 (((Below.refl _ _).alloc (Nat.le_refl _) _).drew) g1 cap1 hown1 hgrow1 hat1)
            clear hown1 hgrow1 hat1
            go_wp2
            go_roundw
            case rel => exact ⟨t + 1, by omega, HN, by go_num⟩
            case measure => simp [intOf]; omega
        · have HD := hid_mk (hT2.out.done (t := t) (by rw [HF.out]; omega) (fun j hj => by
            obtain ⟨_, h2⟩ := HQF.out j hj (by omega)
            rw [getD_at A j hj]
            exact h2.stays hbo))
          have HB := hid_mk (hbo.trans (hbw.mono (by omega)))
          go_wp2
          go_ret2
          exact ⟨HB.out, _, _, rfl, HD.out.1, HD.out.2⟩
end Go.Proofs.Qxb6630079a
