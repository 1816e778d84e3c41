import Derived.Test.Qxb6630079aBuild
import Derived.Deep.AppendLies
namespace Go.Proofs.Qxb6630079a
open Go.RowKit

def dA : WA := (ByteArray.empty, none, ByteArray.empty, 0, false)
def nmA (A : List WA) (i : Nat) : ByteArray := (A.getD i dA).1
def regA (A : List WA) (j : Nat) : Bool := (A.getD j dA).2.2.2.2
theorem getD_at (A : List WA) (j : Nat) (h : j < A.length) : A.getD j dA = A[j] := by simp [List.getD, h]
theorem nms_nm (A : List WA) (i : Nat) (h : i < A.length) : (nmsOf A).getD i [] = (nmA A i).data.toList := by rw [nmsOf_at A i h, nmA, getD_at A i h]
/-- A record: name, queues, status, time to live. -/
abbrev RA := ByteArray × Option (List ByteArray) × ByteArray × Int
def recA (A : List WA) (j : Nat) : RA := ((A.getD j dA).1, (A.getD j dA).2.1, (A.getD j dA).2.2.1, (A.getD j dA).2.2.2.1)
/-- What takeWorkers answers. -/
def recsA (A : List WA) : List RA := (regsTo (nmsOf A) (regA A) A.length).map fun i => recA A (lastOf (nmsOf A) i)
def gonesA (A : List WA) : List ByteArray := (gonesTo (nmsOf A) (regA A) A.length).map (nmA A)
def RecsOK (w : World) (rv : Value) (rs : List RA) : Prop :=
  (rs = [] ∧ rv = .slice none 0 0) ∨ (rs ≠ [] ∧ ∃ g c, rv = .slice (some ⟨g, 0, none⟩) rs.length c ∧ ∀ j (h : j < rs.length), w.cell? ⟨g, j * 4, none⟩ = some (.string rs[j].1) ∧ (∃ v, w.cell? ⟨g, j * 4 + 1, none⟩ = some v ∧ Q w v rs[j].2.1) ∧
    w.cell? ⟨g, j * 4 + 2, none⟩ = some (.string rs[j].2.2.1) ∧ w.cell? ⟨g, j * 4 + 3, none⟩ = some (.int .i64 rs[j].2.2.2))
def GoneOK (w : World) (gv : Value) (gs : List ByteArray) : Prop :=
  (gs = [] ∧ gv = .slice none 0 0) ∨ (gs ≠ [] ∧ ∃ g c, gv = .slice (some ⟨g, 0, none⟩) gs.length c ∧ ∀ j (h : j < gs.length), w.cell? ⟨g, j, none⟩ = some (.string gs[j]))
theorem RecsOK.stays {w w' : World} {rv : Value} {rs : List RA} (h : RecsOK w rv rs) (hb : Below w.heap.size w w') : RecsOK w' rv rs := by
  rcases h with h | ⟨h0, g, c, h1, h2⟩
  · exact .inl h
  · refine .inr ⟨h0, g, c, h1, fun j hj => ?_⟩
    obtain ⟨a1, ⟨v, a2, a3⟩, a4, a5⟩ := h2 j hj
    exact ⟨cell_stays a1 hb, ⟨v, cell_stays a2 hb, a3.stays hb⟩, cell_stays a4 hb, cell_stays a5 hb⟩
theorem GoneOK.stays {w w' : World} {gv : Value} {gs : List ByteArray} (h : GoneOK w gv gs) (hb : Below w.heap.size w w') : GoneOK w' gv gs := by
  rcases h with h | ⟨h0, g, c, h1, h2⟩
  · exact .inl h
  · exact .inr ⟨h0, g, c, h1, fun j hj => cell_stays (h2 j hj) hb⟩
def TakeEnds (A : List WA) (w : World) (e : Ending) (w' : World) : Prop :=
  Below w.heap.size w w' ∧ ∃ rv gv, e = .returned (.tuple #[rv, gv]) ∧ RecsOK w' rv (recsA A) ∧ GoneOK w' gv (gonesA A)

theorem make_map (n : Nat) (w : World) : (Instr.makeMap 49 (some (.int .i64 (n : Int)))).run Try.prog w = .ok (.map (some w.heap.size)) (w.alloc (.map #[] 0)) := by
  simp [Instr.makeMap, run_underlying Try.underlying49, asInt, asIntOf]

/-! ### The first loop -/
def names (A : List WA) (is : List Nat) : List Value := is.map fun i => Value.string (nmA A i)
def T1 (A : List WA) (ps : List Nat) (w wr : World) (k : Nat) (nv : Value) : Prop :=
  PM wr w.heap.size k (fun x => (lastTo (nmsOf A) k x).map fun j => ps.getD j 0) ∧ wr.ownsRow (w.heap.size + 1) 9 1 nv (firstsTo (nmsOf A) k).length (names A (firstsTo (nmsOf A) k)) ∧ Below w.heap.size w wr
theorem T1.size {A : List WA} {ps : List Nat} {w wr : World} {k : Nat} {nv : Value} (h : T1 A ps w wr k nv) : w.heap.size + 1 ≤ wr.heap.size := h.1.lt
theorem T1.start (A : List WA) (ps : List Nat) (w : World) : T1 A ps w (w.alloc (.map #[] 0)) 0 (.slice none 0 0) :=
  ⟨PM.made w, by simpa [firstsTo, names] using World.ownsRow_nil _ _ _ _, (Below.refl _ _).alloc (Nat.le_refl _) _⟩
theorem fn_step (A : List WA) (ps : List Nat) (k : Nat) (hk : k < A.length) (p : Nat) (hp : ps.getD k 0 = p) :
    (fun x => if (nmA A k).data.toList = x then some p else (lastTo (nmsOf A) k x).map fun j => ps.getD j 0) = (fun x => (lastTo (nmsOf A) (k + 1) x).map fun j => ps.getD j 0) := by
  funext x
  rw [show lastTo (nmsOf A) (k + 1) x = if (nmsOf A).getD k [] = x then some k else lastTo (nmsOf A) k x from rfl, nms_nm A k hk]
  by_cases e : (nmA A k).data.toList = x
  · rw [if_pos e, if_pos e, ← hp]; rfl
  · rw [if_neg e, if_neg e]
/-- The name is there already: only the map is written. -/
theorem T1.again {A : List WA} {ps : List Nat} {w wr : World} {k : Nat} {nv : Value} (h : T1 A ps w wr k nv) (hk : k < A.length) (hlen : A.length ≤ 1048576) (hf : isFirst (nmsOf A) k = false) (hs : (nmA A k).size ≤ maxLen) (p : Nat) (hp : ps.getD k 0 = p) :
    ∃ w', (Instr.mapUpdate 49 (.map (some w.heap.size)) (.string (nmA A k)) (.pointer (some ⟨p, 0, none⟩))).run Try.prog wr = .ok () w' ∧ T1 A ps w w' (k + 1) nv := by
  obtain ⟨w', h1, h2, h3⟩ := h.1.put (by unfold maxLen; omega) hs p
  rw [fn_step A ps k hk p hp] at h2
  refine ⟨w', h1, h2, ?_, h.2.2.grown h3 h.2.2.size (fun j hj => by cases hj; exact Nat.le_refl _)⟩
  rw [firstsTo_no hf]
  refine h.2.1.kept h3 ?_
  cases hv : nv.ownBlock with
  | none => exact .inl rfl
  | some x => right; have := (h.2.1.lt x hv).1; simp; omega
/-- A new name: appended, then the map is written. -/
theorem T1.fresh {A : List WA} {ps : List Nat} {w wr w1 : World} {k : Nat} {nv nv' : Value} {o : Obj} (h : T1 A ps w wr k nv) (hk : k < A.length) (hlen : A.length ≤ 1048576) (hf : isFirst (nmsOf A) k = true) (hs : (nmA A k).size ≤ maxLen) (p : Nat) (hp : ps.getD k 0 = p)
    (hown : w1.ownsRow (w.heap.size + 1) 9 1 nv' ((firstsTo (nmsOf A) k).length + 1) (names A (firstsTo (nmsOf A) k) ++ [.string (nmA A k)])) (hg : (wr.alloc o).grownBy w1 nv.ownBlock) :
    ∃ w', (Instr.mapUpdate 49 (.map (some w.heap.size)) (.string (nmA A k)) (.pointer (some ⟨p, 0, none⟩))).run Try.prog w1 = .ok () w' ∧ T1 A ps w w' (k + 1) nv' := by
  have hsz := h.size
  have hnb : some w.heap.size ≠ nv.ownBlock := fun e => by have := (h.2.1.lt _ e.symm).1; omega
  have hpm : PM w1 w.heap.size k _ := (h.1.kept (World.grownBy_alloc wr o none) (by simp)).kept hg hnb
  obtain ⟨w', h1, h2, h3⟩ := hpm.put (by unfold maxLen; omega) hs p
  rw [fn_step A ps k hk p hp] at h2
  have hb1 : Below w.heap.size w w1 := (h.2.2.alloc h.2.2.size o).grown hg (by simp; omega) (fun j hj => by have := (h.2.1.lt j hj).1; omega)
  refine ⟨w', h1, h2, ?_, hb1.grown h3 hb1.size (fun j hj => by cases hj; exact Nat.le_refl _)⟩
  rw [firstsTo_yes hf, List.length_append]
  have : names A (firstsTo (nmsOf A) k ++ [k]) = names A (firstsTo (nmsOf A) k) ++ [.string (nmA A k)] := by simp [names]
  rw [this]
  refine hown.kept h3 ?_
  cases hv : nv'.ownBlock with
  | none => exact .inl rfl
  | some x => right; have := (hown.lt x hv).1; simp; omega
theorem first_none {A : List WA} {k : Nat} (hk : k < A.length) (hf : isFirst (nmsOf A) k = true) : lastTo (nmsOf A) k (nmA A k).data.toList = none := by
  rw [← nms_nm A k hk]
  unfold isFirst at hf
  exact Option.isNone_iff_eq_none.1 hf
theorem first_some {A : List WA} {k : Nat} (hk : k < A.length) (hf : isFirst (nmsOf A) k = false) : ∃ j, lastTo (nmsOf A) k (nmA A k).data.toList = some j := by
  rw [← nms_nm A k hk]
  unfold isFirst at hf
  cases h : lastTo (nmsOf A) k ((nmsOf A).getD k []) with
  | none => rw [h] at hf; cases hf
  | some j => exact ⟨j, rfl⟩

/-! ### The second loop -/
def rc4 (A : List WA) (qf : Nat → Value) (j : Nat) : List Value := [.string (A.getD j dA).1, qf j, .string (A.getD j dA).2.2.1, .int .i64 (A.getD j dA).2.2.2.1]
def rcs (A : List WA) (qf : Nat → Value) (js : List Nat) : List Value := js.flatMap (rc4 A qf)
theorem rcs_len (A : List WA) (qf : Nat → Value) (js : List Nat) : (rcs A qf js).length = js.length * 4 := by
  induction js with
  | nil => rfl
  | cons j js ih => simp only [rcs, List.flatMap_cons, List.length_append, List.length_cons] at *; rw [ih]; simp [rc4]; omega
theorem rcs_snoc (A : List WA) (qf : Nat → Value) (js : List Nat) (j : Nat) : rcs A qf (js ++ [j]) = rcs A qf js ++ rc4 A qf j := by simp [rcs]
theorem rcs_at (A : List WA) (qf : Nat → Value) (js : List Nat) (t : Nat) (h : t < js.length) : (rcs A qf js)[t * 4]? = some (.string (A.getD js[t] dA).1) ∧ (rcs A qf js)[t * 4 + 1]? = some (qf js[t]) ∧ (rcs A qf js)[t * 4 + 2]? = some (.string (A.getD js[t] dA).2.2.1) ∧ (rcs A qf js)[t * 4 + 3]? = some (.int .i64 (A.getD js[t] dA).2.2.2.1) := by
  induction js generalizing t with
  | nil => simp at h
  | cons j js ih =>
    cases t with
    | zero => simp [rcs, rc4]
    | succ t =>
      have := ih t (by simpa using h)
      rw [show (t + 1) * 4 = t * 4 + 4 by omega, show t * 4 + 4 + 1 = t * 4 + 1 + 4 by omega, show t * 4 + 4 + 2 = t * 4 + 2 + 4 by omega, show t * 4 + 4 + 3 = t * 4 + 3 + 4 by omega]
      simpa [rcs, rc4] using this
/-- The registered and the gone among the first t names. -/
def rgs (A : List WA) (t : Nat) : List Nat := ((firstsTo (nmsOf A) A.length).take t).filter fun i => regA A (lastOf (nmsOf A) i)
def gns (A : List WA) (t : Nat) : List Nat := ((firstsTo (nmsOf A) A.length).take t).filter fun i => !regA A (lastOf (nmsOf A) i)
def lasts (A : List WA) (is : List Nat) : List Nat := is.map (lastOf (nmsOf A))
theorem rgs_le (A : List WA) (t : Nat) : (rgs A t).length ≤ t ∧ (gns A t).length ≤ t := by
  have h1 := List.length_filter_le (fun i => regA A (lastOf (nmsOf A) i)) ((firstsTo (nmsOf A) A.length).take t)
  have h2 := List.length_filter_le (fun i => !regA A (lastOf (nmsOf A) i)) ((firstsTo (nmsOf A) A.length).take t)
  rw [List.length_take] at h1 h2
  unfold rgs gns
  omega
theorem rgs_reg {A : List WA} {t i : Nat} (ht : t < (firstsTo (nmsOf A) A.length).length) (hi : (firstsTo (nmsOf A) A.length)[t] = i) (hr : regA A (lastOf (nmsOf A) i) = true) : rgs A (t + 1) = rgs A t ++ [i] ∧ gns A (t + 1) = gns A t := by
  unfold rgs gns; rw [List.take_succ_eq_append_getElem ht, hi]; simp [hr]
theorem rgs_gone {A : List WA} {t i : Nat} (ht : t < (firstsTo (nmsOf A) A.length).length) (hi : (firstsTo (nmsOf A) A.length)[t] = i) (hr : regA A (lastOf (nmsOf A) i) = false) : rgs A (t + 1) = rgs A t ∧ gns A (t + 1) = gns A t ++ [i] := by
  unfold rgs gns; rw [List.take_succ_eq_append_getElem ht, hi]; simp [hr]
theorem rgs_all (A : List WA) (t : Nat) (h : (firstsTo (nmsOf A) A.length).length ≤ t) : rgs A t = regsTo (nmsOf A) (regA A) A.length ∧ gns A t = gonesTo (nmsOf A) (regA A) A.length := by
  unfold rgs gns regsTo gonesTo; rw [List.take_of_length_le h]; exact ⟨rfl, rfl⟩
def T2 (A : List WA) (qf : Nat → Value) (w1 wr : World) (t : Nat) (rv gv : Value) : Prop :=
  wr.ownsRow w1.heap.size 38 4 rv (rgs A t).length (rcs A qf (lasts A (rgs A t))) ∧ wr.ownsRow w1.heap.size 9 1 gv (gns A t).length (names A (gns A t)) ∧ (∀ x, rv.ownBlock = some x → gv.ownBlock ≠ some x) ∧ Below w1.heap.size w1 wr ∧ (rgs A t = [] → rv = .slice none 0 0) ∧ (gns A t = [] → gv = .slice none 0 0)
theorem T2.start (A : List WA) (qf : Nat → Value) (w1 : World) : T2 A qf w1 w1 0 (.slice none 0 0) (.slice none 0 0) :=
  ⟨by simpa [rgs, rcs, lasts] using World.ownsRow_nil _ _ _ _, by simpa [gns, names] using World.ownsRow_nil _ _ _ _, fun x h => by simp [Value.ownBlock] at h, Below.refl _ _, fun _ => rfl, fun _ => rfl⟩
/-- A record is appended (wa: the world behind the draw and the element's own block). -/
theorem T2.rec {A : List WA} {qf : Nat → Value} {w1 wr wa w' : World} {t i : Nat} {rv gv : Value} (h : T2 A qf w1 wr t rv gv) (ht : t < (firstsTo (nmsOf A) A.length).length) (hi : (firstsTo (nmsOf A) A.length)[t] = i) (hr : regA A (lastOf (nmsOf A) i) = true)
    (hwa : Below wr.heap.size wr wa) {g cap : Nat} (hown : w'.ownsRow w1.heap.size 38 4 (.slice (some ⟨g, 0, none⟩) ((rgs A t).length + 1) cap) ((rgs A t).length + 1) (rcs A qf (lasts A (rgs A t)) ++ rc4 A qf (lastOf (nmsOf A) i))) (hg : wa.grownBy w' rv.ownBlock) (hat : rv.ownBlock = some g ∨ g = wa.heap.size) :
    T2 A qf w1 w' (t + 1) (.slice (some ⟨g, 0, none⟩) ((rgs A t).length + 1) cap) gv := by
  obtain ⟨h1, h2, h3, h4, h5, h6⟩ := h
  obtain ⟨e1, e2⟩ := rgs_reg ht hi hr
  have hsw := hwa.size
  have hs4 := h4.size
  have hb1 : Below w1.heap.size w1 wa := h4.trans (hwa.mono h4.size)
  refine ⟨?_, ?_, ?_, hb1.grown hg hb1.size (fun j hj => (h1.lt j hj).1), fun e => ?_, by rw [e2]; exact h6⟩
  · rw [e1, List.length_append]
    have : rcs A qf (lasts A (rgs A t ++ [i])) = rcs A qf (lasts A (rgs A t)) ++ rc4 A qf (lastOf (nmsOf A) i) := by simp [lasts, rcs]
    rw [this]; exact hown
  · rw [e2]
    refine (h2.kept (row := none) ⟨hwa.os, hwa.tape, hwa.output, hwa.size, fun k hk _ => hwa.block k hk⟩ (Classical.em _)).kept hg ?_
    cases hv : gv.ownBlock with
    | none => exact .inl rfl
    | some x => right; intro e; exact h3 x e.symm hv
  · intro x hx hgx
    simp [Value.ownBlock] at hx
    subst hx
    have hlt := (h2.lt _ hgx).2
    rcases hat with e | e
    · exact h3 _ e hgx
    · omega
  · rw [e1] at e; simp at e
theorem T2.gone {A : List WA} {qf : Nat → Value} {w1 wr wa w' : World} {t i : Nat} {rv gv : Value} (h : T2 A qf w1 wr t rv gv) (ht : t < (firstsTo (nmsOf A) A.length).length) (hi : (firstsTo (nmsOf A) A.length)[t] = i) (hr : regA A (lastOf (nmsOf A) i) = false)
    (hwa : Below wr.heap.size wr wa) {g cap : Nat} (hown : w'.ownsRow w1.heap.size 9 1 (.slice (some ⟨g, 0, none⟩) ((gns A t).length + 1) cap) ((gns A t).length + 1) (names A (gns A t) ++ [.string (nmA A i)])) (hg : wa.grownBy w' gv.ownBlock) (hat : gv.ownBlock = some g ∨ g = wa.heap.size) :
    T2 A qf w1 w' (t + 1) rv (.slice (some ⟨g, 0, none⟩) ((gns A t).length + 1) cap) := by
  obtain ⟨h1, h2, h3, h4, h5, h6⟩ := h
  obtain ⟨e1, e2⟩ := rgs_gone ht hi hr
  have hsw := hwa.size
  have hs4 := h4.size
  have hb1 : Below w1.heap.size w1 wa := h4.trans (hwa.mono h4.size)
  refine ⟨?_, ?_, ?_, hb1.grown hg hb1.size (fun j hj => (h2.lt j hj).1), by rw [e1]; exact h5, fun e => ?_⟩
  · rw [e1]
    refine (h1.kept (row := none) ⟨hwa.os, hwa.tape, hwa.output, hwa.size, fun k hk _ => hwa.block k hk⟩ (Classical.em _)).kept hg ?_
    cases hv : rv.ownBlock with
    | none => exact .inl rfl
    | some x => right; intro e; exact h3 x hv e.symm
  · rw [e2, List.length_append]
    have : names A (gns A t ++ [i]) = names A (gns A t) ++ [.string (nmA A i)] := by simp [names]
    rw [this]; exact hown
  · intro x hx hgx
    simp [Value.ownBlock] at hgx
    subst hgx
    have hlt := (h1.lt _ hx).2
    rcases hat with e | e
    · exact h3 _ hx e
    · omega
  · rw [e2] at e; simp at e
/-- The answer. -/
theorem T2.done {A : List WA} {qf : Nat → Value} {w1 wr : World} {t : Nat} {rv gv : Value} (h : T2 A qf w1 wr t rv gv) (ht : (firstsTo (nmsOf A) A.length).length ≤ t) (hq : ∀ j, j < A.length → Q w1 (qf j) (A.getD j dA).2.1) :
    RecsOK wr rv (recsA A) ∧ GoneOK wr gv (gonesA A) := by
  obtain ⟨h1, h2, h3, h4, h5, h6⟩ := h
  obtain ⟨e1, e2⟩ := rgs_all A t ht
  rw [e1] at h1 h5
  rw [e2] at h2 h6
  constructor
  · by_cases he : regsTo (nmsOf A) (regA A) A.length = []
    · exact .inl ⟨by unfold recsA; rw [he]; rfl, h5 he⟩
    · have hpos : 0 < (regsTo (nmsOf A) (regA A) A.length).length := List.length_pos_iff.2 he
      obtain ⟨g, c, hv, _, _⟩ := h1.form hpos
      subst hv
      refine .inr ⟨by unfold recsA; simpa using he, g, c, by unfold recsA; simp, fun j hj => ?_⟩
      have hj' : j < (regsTo (nmsOf A) (regA A) A.length).length := by unfold recsA at hj; simpa using hj
      have hmem : (regsTo (nmsOf A) (regA A) A.length)[j] ∈ firstsTo (nmsOf A) A.length := by
        have := List.getElem_mem hj'
        unfold regsTo at this
        exact (List.mem_filter.1 this).1
      have hlt := (firstsTo_mem.1 hmem).1
      have hl := (lastOf_spec (N := nmsOf A) (by rw [nmsOf_len]; exact hlt)).2.2.1
      rw [nmsOf_len] at hl
      obtain ⟨a1, a2, a3, a4⟩ := rcs_at A qf (lasts A (regsTo (nmsOf A) (regA A) A.length)) j (by simpa [lasts] using hj')
      have hlj : (lasts A (regsTo (nmsOf A) (regA A) A.length))[j]'(by simpa [lasts] using hj') = lastOf (nmsOf A) (regsTo (nmsOf A) (regA A) A.length)[j] := by simp [lasts]
      rw [hlj] at a1 a2 a3 a4
      rw [h1.cellAt _ (by omega), h1.cellAt _ (by omega), h1.cellAt _ (by omega), h1.cellAt _ (by omega)]
      have hrj : (recsA A)[j] = recA A (lastOf (nmsOf A) (regsTo (nmsOf A) (regA A) A.length)[j]) := by simp [recsA]
      rw [hrj]
      exact ⟨a1, ⟨_, a2, (hq _ hl).stays h4⟩, a3, a4⟩
  · by_cases he : gonesTo (nmsOf A) (regA A) A.length = []
    · exact .inl ⟨by unfold gonesA; rw [he]; rfl, h6 he⟩
    · have hpos : 0 < (gonesTo (nmsOf A) (regA A) A.length).length := List.length_pos_iff.2 he
      obtain ⟨g, c, hv, _, _⟩ := h2.form hpos
      subst hv
      refine .inr ⟨by unfold gonesA; simpa using he, g, c, by unfold gonesA; simp, fun j hj => ?_⟩
      have hj' : j < (gonesTo (nmsOf A) (regA A) A.length).length := by unfold gonesA at hj; simpa using hj
      rw [h2.cellAt _ (by omega)]
      simp [names, gonesA, hj']
end Go.Proofs.Qxb6630079a
