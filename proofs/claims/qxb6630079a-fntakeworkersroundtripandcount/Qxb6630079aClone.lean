import Derived.Test.Qxb6630079aEq
import Derived.BigRegion
namespace Go.Proofs.Qxb6630079a
open Go.RowKit

/-- A slice of strings whose row lies from block lo on. -/
def QN (lo : Nat) (w : World) (v : Value) (oq : Option (List ByteArray)) : Prop :=
  (oq = none ∧ v = .slice none 0 0) ∨ ∃ ss a cap, oq = some ss ∧ v = .slice (some a) ss.length cap ∧ lo ≤ a.block ∧ ∀ j (h : j < ss.length), w.cell? (a.add j) = some (.string ss[j])
theorem QN.q {lo : Nat} {w : World} {v : Value} {oq : Option (List ByteArray)} (h : QN lo w v oq) : Q w v oq := by
  rcases h with h | ⟨ss, a, cap, h1, h2, _, h3⟩
  · exact .inl h
  · exact .inr ⟨ss, a, cap, h1, h2, h3⟩
theorem QN.other {lo : Nat} {w w' : World} {v : Value} {oq : Option (List ByteArray)} (h : QN lo w v oq) (hb : ∀ k, lo ≤ k → k < w.heap.size → w'.heap[k]? = w.heap[k]?) : QN lo w' v oq := by
  rcases h with h | ⟨ss, a, cap, h1, h2, h3, h4⟩
  · exact .inl h
  · refine .inr ⟨ss, a, cap, h1, h2, h3, fun j hj => ?_⟩
    have h5 := h4 j hj
    have h6 : (a.add j).block = a.block := by unfold Addr.add; split <;> rfl
    exact (World.cell?_of_block (hb _ (by rw [h6]; exact h3) (World.block_lt_of_cell? w _ h5))).trans h5

def cl5 (a : WA) (v : Value) : List Value := [.string a.1, v, .string a.2.2.1, .int .i64 a.2.2.2.1, .bool a.2.2.2.2]
def cls : List WA → List Value → List Value
  | a :: A, v :: vs => cl5 a v ++ cls A vs
  | _, _ => []
theorem cls_len : ∀ (A : List WA) (vs : List Value), vs.length ≤ A.length → (cls A vs).length = 5 * vs.length
  | [], [], _ => rfl
  | [], _ :: _, h => by simp at h
  | _ :: _, [], _ => rfl
  | a :: A, v :: vs, h => by
    have := cls_len A vs (by simpa using h)
    simp only [cls, List.length_append, this, List.length_cons]
    simp [cl5]; omega
theorem cls_snoc : ∀ (A : List WA) (vs : List Value) (v : Value) (h : vs.length < A.length), cls A (vs ++ [v]) = cls A vs ++ cl5 A[vs.length] v
  | [], _, _, h => by simp at h
  | a :: A, [], v, _ => by simp [cls]
  | a :: A, u :: vs, v, h => by
    have := cls_snoc A vs v (by simpa using h)
    simp only [List.cons_append, cls, this, List.length_cons, List.getElem_cons_succ, List.append_assoc]
theorem cls_at : ∀ (A : List WA) (vs : List Value) (j : Nat) (h : j < A.length) (h' : j < vs.length), (cls A vs)[j * 5]? = some (.string A[j].1) ∧ (cls A vs)[j * 5 + 1]? = some vs[j] ∧ (cls A vs)[j * 5 + 2]? = some (.string A[j].2.2.1) ∧
    (cls A vs)[j * 5 + 3]? = some (.int .i64 A[j].2.2.2.1) ∧ (cls A vs)[j * 5 + 4]? = some (.bool A[j].2.2.2.2)
  | [], _, _, h, _ => by simp at h
  | _ :: _, [], _, _, h => by simp at h
  | a :: A, v :: vs, 0, _, _ => by simp [cls, cl5]
  | a :: A, v :: vs, j + 1, h, h' => by
    have := cls_at A vs j (by simpa using h) (by simpa using h')
    rw [show (j + 1) * 5 = j * 5 + 5 by omega, show j * 5 + 5 + 1 = j * 5 + 1 + 5 by omega, show j * 5 + 5 + 2 = j * 5 + 2 + 5 by omega, show j * 5 + 5 + 3 = j * 5 + 3 + 5 by omega, show j * 5 + 5 + 4 = j * 5 + 4 + 5 by omega]
    simpa [cls, cl5] using this
theorem set5 (xs ys : List Value) (a b c d e : Value) (k : Nat) (h : xs.length = k) (h5 : 5 ≤ ys.length) : (((((xs ++ ys).set k a).set (k + 1) b).set (k + 2) c).set (k + 3) d).set (k + 4) e = xs ++ [a, b, c, d, e] ++ ys.drop 5 := by
  subst h
  match ys, h5 with
  | y0 :: y1 :: y2 :: y3 :: y4 :: r, _ => simp

/-- The state of zzClone's loop. -/
def CR (A : List WA) (Z : List Value) (w wr : World) (vs : List Value) : Prop :=
  vs.length ≤ A.length ∧ (∀ j (h : j < vs.length) (h' : j < A.length), QN (w.heap.size + 1) wr vs[j] A[j].2.1) ∧ wr.ownsRow w.heap.size 33 5 (.slice (some ⟨w.heap.size, 0, none⟩) A.length A.length) A.length (cls A vs ++ Z.drop (5 * vs.length)) ∧ Below w.heap.size w wr ∧ Z.length = A.length * 5 ∧ w.heap.size < wr.heap.size
/-- Five stores. -/
def put5 (w : World) (g o : Nat) (a : WA) (v : Value) : World :=
  ((((w.setCell ⟨g, o, none⟩ (.string a.1)).setCell ⟨g, o + 1, none⟩ v).setCell ⟨g, o + 2, none⟩ (.string a.2.2.1)).setCell ⟨g, o + 3, none⟩ (.int .i64 a.2.2.2.1)).setCell ⟨g, o + 4, none⟩ (.bool a.2.2.2.2)
theorem put5_other (w : World) (g o : Nat) (a : WA) (v : Value) (k : Nat) (h : k ≠ g) : (put5 w g o a v).heap[k]? = w.heap[k]? := by
  unfold put5
  rw [Below.heap_setCell _ _ _ _ h, Below.heap_setCell _ _ _ _ h, Below.heap_setCell _ _ _ _ h, Below.heap_setCell _ _ _ _ h, Below.heap_setCell _ _ _ _ h]
theorem put5_size (w : World) (g o : Nat) (a : WA) (v : Value) : (put5 w g o a v).heap.size = w.heap.size := by simp [put5, World.setCell]
theorem put5_below (w : World) (g o : Nat) (a : WA) (v : Value) : Below g w (put5 w g o a v) :=
  (((((Below.refl _ _).setCell (p := ⟨g, o, none⟩) (Nat.le_refl _) _).setCell (p := ⟨g, o + 1, none⟩) (Nat.le_refl _) _).setCell (p := ⟨g, o + 2, none⟩) (Nat.le_refl _) _).setCell (p := ⟨g, o + 3, none⟩) (Nat.le_refl _) _).setCell (p := ⟨g, o + 4, none⟩) (Nat.le_refl _) _
/-- One element more: wj: the world behind the queue's own copy; q draws. -/
theorem CR.next {A : List WA} {Z : List Value} {w wr wj : World} {vs : List Value} (h : CR A Z w wr vs) (hlt : vs.length < A.length) (q : Nat) (v : Value) (hj : Below wr.heap.size wr wj) (hv : QN (w.heap.size + 1) wj v A[vs.length].2.1) :
    CR A Z w (put5 (wj.drewN q) w.heap.size (vs.length * 5) A[vs.length] v) (vs ++ [v]) := by
  obtain ⟨h1, h2, h3, h4, h5, h6⟩ := h
  have hsz := hj.size
  have hoth : ∀ k, w.heap.size + 1 ≤ k → (put5 (wj.drewN q) w.heap.size (vs.length * 5) A[vs.length] v).heap[k]? = wj.heap[k]? := fun k hk => by rw [put5_other _ _ _ _ _ _ (by omega)]; rfl
  refine ⟨by simp; omega, fun j hj1 hj2 => ?_, ?_, ?_, h5, by rw [put5_size]; simp; omega⟩
  · rcases Nat.lt_or_ge j vs.length with hl | hl
    · rw [List.getElem_append_left hl]
      refine (h2 j hl hj2).other fun k hk hk' => ?_
      rw [hoth k hk]
      exact hj.block k hk'
    · have e : j = vs.length := by simp at hj1; omega
      subst e
      rw [List.getElem_append_right (Nat.le_refl _)]
      simp only [Nat.sub_self, List.getElem_cons_zero]
      exact hv.other fun k hk _ => hoth k hk
  · have hk : wj.ownsRow w.heap.size 33 5 (.slice (some ⟨w.heap.size, 0, none⟩) A.length A.length) A.length (cls A vs ++ Z.drop (5 * vs.length)) := by
      refine h3.kept (row := none) ⟨hj.os, hj.tape, hj.output, hj.size, fun k hk _ => hj.block k hk⟩ ?_
      right; simp [Value.ownBlock]
    have hk' : (wj.drewN q).ownsRow w.heap.size 33 5 (.slice (some ⟨w.heap.size, 0, none⟩) A.length A.length) A.length (cls A vs ++ Z.drop (5 * vs.length)) := hk
    have k1 := (hk'.stored (vs.length * 5) (.string A[vs.length].1)).1
    have k2 := (k1.stored (vs.length * 5 + 1) v).1
    have k3 := (k2.stored (vs.length * 5 + 2) (.string A[vs.length].2.2.1)).1
    have k4 := (k3.stored (vs.length * 5 + 3) (.int .i64 A[vs.length].2.2.2.1)).1
    have k5 := (k4.stored (vs.length * 5 + 4) (.bool A[vs.length].2.2.2.2)).1
    rw [set5 (cls A vs) _ _ _ _ _ _ (vs.length * 5) (by rw [cls_len A vs h1]; omega) (by rw [List.length_drop]; omega), List.drop_drop] at k5
    rw [cls_snoc A vs v hlt, List.length_append, show 5 * (vs.length + [v].length) = 5 * vs.length + 5 by simp; omega]
    exact k5
  · exact h4.trans ((hj.mono (by omega)).trans ((below_drewN (Below.refl _ _) q).trans (put5_below _ _ _ _ _)))
theorem CR.done {A : List WA} {Z : List Value} {w wr : World} {vs : List Value} (h : CR A Z w wr vs) (hl : vs.length = A.length) : WsAt wr w.heap.size 0 A := by
  obtain ⟨h1, h2, h3, h4, h5, h6⟩ := h
  rw [List.drop_of_length_le (by omega), List.append_nil] at h3
  intro j hj
  obtain ⟨c1, c2, c3, c4, c5⟩ := cls_at A vs j hj (by omega)
  rw [Nat.zero_add]
  rw [h3.cellAt _ (by omega), h3.cellAt _ (by omega), h3.cellAt _ (by omega), h3.cellAt _ (by omega), h3.cellAt _ (by omega)]
  exact ⟨c1, ⟨_, c2, (h2 j (by omega) hj).q⟩, c3, c4, c5⟩
end Go.Proofs.Qxb6630079a
