import Derived.Test.Qxb6630079aLaw3
namespace Go.Proofs.Qxb6630079a
open Go.RowKit

/-! ### Distinct names -/
def Dist (N : List (List UInt8)) : Prop := ∀ i j, i < j → j < N.length → N.getD i [] ≠ N.getD j []
theorem dist_first {N : List (List UInt8)} (h : Dist N) {i : Nat} (hi : i < N.length) : isFirst N i = true := isFirst_iff.2 fun m hm => h m i hm hi
theorem dist_firsts {N : List (List UInt8)} (h : Dist N) : firstsTo N N.length = List.range N.length := by
  unfold firstsTo
  rw [List.filter_eq_self]
  intro i hi
  exact dist_first h (List.mem_range.1 hi)
theorem dist_last {N : List (List UInt8)} (h : Dist N) {i : Nat} (hi : i < N.length) : lastOf N i = i := lastOf_is hi rfl fun m h1 h2 e => h i m h1 h2 e.symm
def rOf (a : WA) : RA := (a.1, a.2.1, a.2.2.1, a.2.2.2.1)
theorem range_filter {α β : Type} (l : List α) (d : α) (p : α → Bool) (f : α → β) : ((List.range l.length).filter fun i => p (l.getD i d)).map (fun i => f (l.getD i d)) = (l.filter p).map f := by
  have hl : l = (List.range l.length).map (fun i => l.getD i d) := by
    apply List.ext_getElem
    · simp
    · intro i h1 h2
      simp [List.getD, h1]
  have : (l.filter p).map f = (((List.range l.length).map (fun i => l.getD i d)).filter p).map f := by rw [← hl]
  rw [this, List.filter_map, List.map_map]
  rfl
theorem dist_recs {A : List WA} (h : Dist (nmsOf A)) : recsA A = (A.filter fun a => a.2.2.2.2).map rOf ∧ gonesA A = (A.filter fun a => !a.2.2.2.2).map (·.1) := by
  have hf := dist_firsts h
  rw [nmsOf_len] at hf
  constructor
  · unfold recsA regsTo
    rw [hf, List.filter_congr (q := fun i => (A.getD i dA).2.2.2.2) (by intro i hi; rw [dist_last h (by rw [nmsOf_len]; exact List.mem_range.1 hi)]; rfl), ← range_filter A dA (fun a => a.2.2.2.2) rOf]
    apply List.map_congr_left
    intro i hi
    have := List.mem_range.1 (List.mem_filter.1 hi).1
    rw [dist_last h (by rw [nmsOf_len]; exact this)]; rfl
  · unfold gonesA gonesTo
    rw [hf, List.filter_congr (q := fun i => !(A.getD i dA).2.2.2.2) (by intro i hi; rw [dist_last h (by rw [nmsOf_len]; exact List.mem_range.1 hi)]; rfl), ← range_filter A dA (fun a => !a.2.2.2.2) (·.1)]
    rfl

/-! ### The workers made anew of an answer -/
def inR (r : RA) : WA := (r.1, r.2.1, r.2.2.1, r.2.2.2, true)
def inG (s : ByteArray) : WA := (s, none, ⟨#[]⟩, 0, false)
def againA (A : List WA) : List WA := (recsA A).map inR ++ (gonesA A).map inG
theorem again_filter (R : List RA) (G : List ByteArray) : ((R.map inR ++ G.map inG).filter fun a => a.2.2.2.2).map rOf = R ∧ ((R.map inR ++ G.map inG).filter fun a => !a.2.2.2.2).map (·.1) = G := by
  have hr : ∀ a ∈ R.map inR, a.2.2.2.2 = true := fun a ha => by obtain ⟨r, _, rfl⟩ := List.mem_map.1 ha; rfl
  have hg : ∀ a ∈ G.map inG, a.2.2.2.2 = false := fun a ha => by obtain ⟨r, _, rfl⟩ := List.mem_map.1 ha; rfl
  constructor
  · rw [List.filter_append, List.filter_eq_self.2 hr, List.filter_eq_nil_iff.2 (fun a ha => by rw [hg a ha]; simp), List.append_nil, List.map_map]
    have : rOf ∘ inR = id := rfl
    rw [this, List.map_id]
  · rw [List.filter_append, List.filter_eq_nil_iff.2 (fun a ha => by rw [hr a ha]; simp), List.filter_eq_self.2 (fun a ha => by rw [hg a ha]; rfl), List.nil_append, List.map_map]
    have : (fun a : WA => a.1) ∘ inG = id := rfl
    rw [this, List.map_id]
theorem first_inj {N : List (List UInt8)} {i j : Nat} (hi : isFirst N i = true) (hj : isFirst N j = true) (h : N.getD i [] = N.getD j []) : i = j := by
  rcases Nat.lt_trichotomy i j with hl | hl | hl
  · exact absurd h (isFirst_iff.1 hj i hl)
  · exact hl
  · exact absurd h.symm (isFirst_iff.1 hi j hl)
def idxs (A : List WA) : List Nat := regsTo (nmsOf A) (regA A) A.length ++ gonesTo (nmsOf A) (regA A) A.length
theorem idxs_mem {A : List WA} {i : Nat} (h : i ∈ idxs A) : i < A.length ∧ isFirst (nmsOf A) i = true := by
  unfold idxs regsTo gonesTo at h
  rcases List.mem_append.1 h with h | h
  · exact firstsTo_mem.1 (List.mem_filter.1 h).1
  · exact firstsTo_mem.1 (List.mem_filter.1 h).1
theorem idxs_nodup (A : List WA) : (idxs A).Nodup := by
  have hn : (firstsTo (nmsOf A) A.length).Nodup := List.Pairwise.filter _ List.nodup_range
  unfold idxs regsTo gonesTo
  rw [List.nodup_append]
  refine ⟨List.Pairwise.filter _ hn, List.Pairwise.filter _ hn, fun a ha b hb e => ?_⟩
  subst e
  have h1 := (List.mem_filter.1 ha).2
  have h2 := (List.mem_filter.1 hb).2
  rw [h1] at h2
  simp at h2
theorem again_nms (A : List WA) : nmsOf (againA A) = (idxs A).map fun i => (nmsOf A).getD i [] := by
  have h1 : ∀ i ∈ regsTo (nmsOf A) (regA A) A.length, (A.getD (lastOf (nmsOf A) i) dA).1.data.toList = (nmsOf A).getD i [] := fun i hi => by
    have hl := (idxs_mem (A := A) (List.mem_append_left _ hi)).1
    rw [nms_nm A i hl, ← (names_same hl).2]; rfl
  have h2 : ∀ i ∈ gonesTo (nmsOf A) (regA A) A.length, (nmA A i).data.toList = (nmsOf A).getD i [] := fun i hi => (nms_nm A i (idxs_mem (A := A) (List.mem_append_right _ hi)).1).symm
  rw [idxs, List.map_append, ← List.map_congr_left h1, ← List.map_congr_left h2]
  simp only [nmsOf, againA, recsA, gonesA, List.map_append, List.map_map]
  rfl
theorem again_dist (A : List WA) : Dist (nmsOf (againA A)) := by
  intro i j hij hj
  rw [again_nms] at hj ⊢
  rw [List.length_map] at hj
  have hp := List.pairwise_iff_getElem.1 (idxs_nodup A) i j (by omega) hj hij
  have e1 : ∀ k (hk : k < (idxs A).length), ((idxs A).map fun i => (nmsOf A).getD i []).getD k [] = (nmsOf A).getD (idxs A)[k] [] := fun k hk => by simp [List.getD, hk]
  rw [e1 i (by omega), e1 j hj]
  exact fun e => hp (first_inj (idxs_mem (List.getElem_mem _)).2 (idxs_mem (List.getElem_mem _)).2 e)
/-- THE ROUND TRIP, with no Go in sight. -/
theorem again_same (A : List WA) : recsA (againA A) = recsA A ∧ gonesA (againA A) = gonesA A := by
  obtain ⟨h1, h2⟩ := dist_recs (again_dist A)
  obtain ⟨h3, h4⟩ := again_filter (recsA A) (gonesA A)
  exact ⟨h1.trans h3, h2.trans h4⟩
theorem again_len (A : List WA) : (recsA A).length + (gonesA A).length = (firstsTo (nmsOf A) A.length).length ∧ (recsA A).length + (gonesA A).length ≤ A.length ∧ (againA A).length = (recsA A).length + (gonesA A).length := by
  have h := regs_gones (nmsOf A) (regA A) A.length
  have h2 := firstsTo_len (nmsOf A) A.length
  have h3 : (recsA A).length = (regsTo (nmsOf A) (regA A) A.length).length := by simp [recsA]
  have h4 : (gonesA A).length = (gonesTo (nmsOf A) (regA A) A.length).length := by simp [gonesA]
  have h5 : (againA A).length = (recsA A).length + (gonesA A).length := by simp [againA]
  omega
theorem recs_mem {A : List WA} {r : RA} (h : r ∈ recsA A) : ∃ a ∈ A, r = rOf a := by
  obtain ⟨i, hi, rfl⟩ := List.mem_map.1 h
  have hl := (names_same (idxs_mem (A := A) (List.mem_append_left _ hi)).1).1
  exact ⟨_, List.getElem_mem hl, by rw [recA, getD_at A _ hl]; rfl⟩
theorem gones_mem {A : List WA} {s : ByteArray} (h : s ∈ gonesA A) : ∃ a ∈ A, s = a.1 := by
  obtain ⟨i, hi, rfl⟩ := List.mem_map.1 h
  have hl := (idxs_mem (A := A) (List.mem_append_right _ hi)).1
  exact ⟨_, List.getElem_mem hl, by rw [nmA, getD_at A _ hl]⟩
theorem again_names {A : List WA} (h : ∀ a ∈ A, a.1.size ≤ maxLen) : ∀ a ∈ againA A, a.1.size ≤ maxLen := by
  intro a ha
  rcases List.mem_append.1 ha with ha | ha
  · obtain ⟨r, hr, rfl⟩ := List.mem_map.1 ha
    obtain ⟨b, hb, rfl⟩ := recs_mem hr
    exact h b hb
  · obtain ⟨r, hr, rfl⟩ := List.mem_map.1 ha
    obtain ⟨b, hb, rfl⟩ := gones_mem hr
    exact h b hb
theorem again_rec (A : List WA) (i : Nat) (hi : i < (recsA A).length) : ∃ h : i < (againA A).length, (againA A)[i] = inR (recsA A)[i] := by
  have hl : i < (againA A).length := by rw [(again_len A).2.2]; omega
  refine ⟨hl, ?_⟩
  simp only [againA]
  rw [List.getElem_append_left (by simpa using hi)]
  simp
theorem again_gone (A : List WA) (i : Nat) (hi : i < (gonesA A).length) : ∃ h : (recsA A).length + i < (againA A).length, (againA A)[(recsA A).length + i] = inG (gonesA A)[i] := by
  have hl : (recsA A).length + i < (againA A).length := by rw [(again_len A).2.2]; omega
  refine ⟨hl, ?_⟩
  simp only [againA]
  rw [List.getElem_append_right (by simp)]
  simp

/-! ### The row of pointers that is appended to -/
theorem own_below {w w' : World} {base e size n : Nat} {v : Value} {xs : List Value} (h : w.ownsRow base e size v n xs) (hb : Below w.heap.size w w') : w'.ownsRow base e size v n xs :=
  h.kept (row := none) ⟨hb.os, hb.tape, hb.output, hb.size, fun k hk _ => hb.block k hk⟩ (Classical.em _)
def AG (B : List WA) (w5 wr : World) (nv : Value) (ps : List Nat) : Prop :=
  wr.ownsRow w5.heap.size 39 1 nv ps.length (ptrs ps) ∧ (∀ j (h : j < ps.length) (h' : j < B.length), nv.ownBlock ≠ some ps[j] ∧ WkAt w5 wr ps[j] B[j]) ∧ Below w5.heap.size w5 wr ∧ ps.length ≤ B.length
theorem AG.next {B : List WA} {w5 wr wa w' : World} {nv : Value} {ps : List Nat} (h : AG B w5 wr nv ps) (hlt : ps.length < B.length) (hwa : Below wr.heap.size wr wa) (hnew : WkAt w5 wa wr.heap.size B[ps.length]) {g cap : Nat}
    (hown : w'.ownsRow w5.heap.size 39 1 (.slice (some ⟨g, 0, none⟩) (ps.length + 1) cap) (ps.length + 1) (ptrs ps ++ [.pointer (some ⟨wr.heap.size, 0, none⟩)])) (hg : wa.grownBy w' nv.ownBlock) (hat : nv.ownBlock = some g ∨ g = wa.heap.size) :
    AG B w5 w' (.slice (some ⟨g, 0, none⟩) (ps.length + 1) cap) (ps ++ [wr.heap.size]) := by
  obtain ⟨h1, h2, h3, h4⟩ := h
  have hbw : Below w5.heap.size w5 wa := h3.trans (hwa.mono h3.size)
  have hsz := hwa.size
  refine ⟨?_, fun j hj hj' => ?_, hbw.grown hg hbw.size (fun j hj => (h1.lt j hj).1), by simp; omega⟩
  · rw [List.length_append]; simpa [ptrs] using hown
  · rcases Nat.lt_or_ge j ps.length with hl | hl
    · rw [List.getElem_append_left hl]
      obtain ⟨a1, a2⟩ := h2 j hl hj'
      have hlt2 := a2.lt
      refine ⟨?_, a2.block ((hg.block _ (by omega) (fun e => a1 e.symm)).trans (hwa.block _ hlt2))⟩
      intro e
      simp [Value.ownBlock] at e
      rcases hat with e2 | e2
      · exact a1 (by rw [e2, e])
      · omega
    · have e : j = ps.length := by simp at hj; omega
      subst e
      rw [List.getElem_append_right (Nat.le_refl _)]
      simp only [Nat.sub_self, List.getElem_cons_zero]
      have hne : some wr.heap.size ≠ nv.ownBlock := fun e => by have := (h1.lt _ e.symm).2; omega
      refine ⟨?_, hnew.block (hg.block _ hnew.lt hne)⟩
      intro e
      simp [Value.ownBlock] at e
      rcases hat with e2 | e2
      · exact hne (by rw [e2, e])
      · have := hnew.lt; omega
/-- The row, as takeWorkers takes it. -/
theorem AG.done {B : List WA} {w5 wr : World} {nv : Value} {ps : List Nat} (h : AG B w5 wr nv ps) (hl : ps.length = B.length) (hlen : B.length ≤ 4096) (hnm : ∀ a ∈ B, a.1.size ≤ maxLen) : Calls Try.prog 17 #[nv] wr (TakeEnds B wr) := by
  obtain ⟨h1, h2, h3, h4⟩ := h
  by_cases h0 : B.length = 0
  · obtain rfl : B = [] := List.eq_nil_of_length_eq_zero h0
    obtain ⟨a, c, rfl⟩ := own_shape h1
    rw [hl]
    exact take_empty _ _ wr
  · obtain ⟨g, cap, rfl, _, _⟩ := h1.form (by omega)
    rw [hl]
    refine take_walk B ps g cap hlen hnm wr ⟨hl, fun j hj hj' => ⟨?_, (h2 j hj' hj).2.stays h3 (Below.refl _ _)⟩⟩
    rw [h1.cellAt _ (by omega)]
    simp [ptrs, hj']
set_option maxHeartbeats 1000000 in
/-- 'ZZtakeWorkers', of a call of 'takeWorkers'. -/
theorem zztake_of (A : List WA) (v : Value) (w : World) (h : Calls Try.prog 17 #[v] w (TakeEnds A w)) : Calls Try.prog 8 #[v] w fun e w' => Below w.heap.size w w' ∧ ∃ ra rc ga gc, e = .returned (.tuple #[.slice ra (recsA A).length rc, .slice ga (gonesA A).length gc]) ∧ RecsOK w' (.slice ra (recsA A).length rc) (recsA A) ∧ GoneOK w' (.slice ga (gonesA A).length gc) (gonesA A) := by
  have HP := hid_mk h
  clear h
  go_enter Try.func8, Try.ntmps8
  go_wp2_with fail
  refine HP.out.mono ?_
  rintro e w' ⟨hb, rv, gv, rfl, h1, h2⟩
  obtain ⟨ra, rc, hr⟩ := h1.shape
  obtain ⟨ga, gc, hg⟩ := h2.shape
  subst hr hg
  have HB := hid_mk hb
  have H1 := hid_mk h1
  have H2 := hid_mk h2
  clear hb h1 h2
  go_wp2
  go_ret2
  exact ⟨HB.out, _, _, _, _, rfl, H1.out, H2.out⟩
end Go.Proofs.Qxb6630079a
