import Derived.Test.Qxb6630051aUvm
import Derived.Laws.BytesArg
namespace Go.Proofs.Qxb6630051a
open Go.RowKit

section
variable {b : List Nat} {n i : Nat} {acc : List (Nat × List Nat × Bool)} {prev p : Nat}
theorem pos_no1 (h : St b n i acc prev p) (hi : i < n) (hu : uv (b.drop p) = none) : rm b = none := h.fail hi (mem1_no1 hu)
theorem pos_no2 (h : St b n i acc prev p) (hi : i < n) {id s : Nat} (hu : uv (b.drop p) = some (id, s)) (h' : id ≤ prev) : rm b = none := h.fail hi (mem1_no2 hu h')
theorem pos_no3 (h : St b n i acc prev p) (hi : i < n) {id s : Nat} (hu : uv (b.drop p) = some (id, s)) (h' : b.length ≤ p + s ∨ 1 < b.getD (p + s) 0) : rm b = none :=
  h.fail hi (mem1_no3 hu (by
    rcases h' with h' | h'
    · left; rw [List.length_drop]; omega
    · right; rw [drop_getD]; exact h'))
theorem drop3 (b : List Nat) (p s : Nat) : (b.drop p).drop (s + 1) = b.drop (p + s + 1) := by rw [List.drop_drop, Nat.add_assoc]
theorem pos_no4 (h : St b n i acc prev p) (hi : i < n) {id s : Nat} (hu : uv (b.drop p) = some (id, s)) (h' : uv (b.drop (p + s + 1)) = none) : rm b = none :=
  h.fail hi (mem1_no4 hu (by rw [drop3]; exact h'))
theorem pos_no5 (h : St b n i acc prev p) (hi : i < n) {id s m q : Nat} (hu : uv (b.drop p) = some (id, s)) (h' : uv (b.drop (p + s + 1)) = some (m, q)) (hm : b.length - (p + s + 1 + q) < m) : rm b = none :=
  h.fail hi (mem1_no5 hu (by rw [drop3]; exact h') (by rw [List.length_drop]; omega))
theorem pos_yes (h : St b n i acc prev p) (hi : i < n) {id s m q : Nat} (hu : uv (b.drop p) = some (id, s)) (h1 : ¬ id ≤ prev) (h2 : p + s < b.length) (h3 : ¬ 1 < b.getD (p + s) 0) (h' : uv (b.drop (p + s + 1)) = some (m, q)) (hm : ¬ b.length - (p + s + 1 + q) < m) :
    St b n (i + 1) (acc ++ [(id, (b.drop (p + s + 1 + q)).take m, b.getD (p + s) 0 == 1)]) id (p + s + 1 + q + m) := by
  have h4 := h.next hi (mem1_yes hu h1 (by rw [List.length_drop]; omega) (by rw [drop_getD]; exact h3) (by rw [drop3]; exact h') (by rw [List.length_drop]; omega))
  rw [drop_getD, List.drop_drop] at h4
  rw [show p + (s + 1 + q + m) = p + s + 1 + q + m by omega, show p + (s + 1 + q) = p + s + 1 + q by omega] at h4
  exact h4
end

/-- A string out of numbers. -/
def strN (l : List Nat) : ByteArray := strOfNums (l.map Int.ofNat)
/-- A member as cells. -/
def mcell (m : Nat × List Nat × Bool) : List Value := [.int .u64 (m.1 : Int), .string (strN m.2.1), .bool m.2.2]
def mcells (ms : List (Nat × List Nat × Bool)) : List Value := ms.flatMap mcell
theorem mcells_len (ms : List (Nat × List Nat × Bool)) : (mcells ms).length = ms.length * 3 := by
  induction ms with
  | nil => rfl
  | cons m ms ih => simp only [mcells, List.flatMap_cons, List.length_append, List.length_cons] at *; rw [ih]; simp [mcell]; omega
theorem mcells_snoc (ms : List (Nat × List Nat × Bool)) (m : Nat × List Nat × Bool) : mcells (ms ++ [m]) = mcells ms ++ mcell m := by simp [mcells]

theorem Row.below {w w' : World} {B off : Nat} {l : List Nat} (h : Row w B off l) {C : Nat} (hb : Below C w w') (hB : B < C) : Row w' B off l :=
  ⟨h.1, fun j hj => (hb.cell (p := ⟨B, off + j, none⟩) hB).trans (h.2 j hj)⟩

theorem size5 (w : World) : (sizeOf (Try.prog.elem 22)).run Try.prog w = .ok 1 w := by kernel_rfl
theorem add_lit (B off k : Nat) : (⟨B, off, none⟩ : Addr).add k = ⟨B, off + k, none⟩ := by unfold Addr.add; split <;> simp_all
/-- 'string(b[lo:hi])': the slice, and the string. -/
theorem sub_str (w : World) (l : List Nat) (B off cap : Nat) (hr : Row w B off l) (hcap : l.length ≤ cap) (lo n : Nat) (h : lo + n ≤ l.length) (x y : Int) (hx : x = lo) (hy : y = lo + n) :
    ∃ off', (∀ w : World, (Instr.slice 22 (.slice (some ⟨B, off, none⟩) l.length cap) (some (.int .i64 x)) (some (.int .i64 y)) none).run Try.prog w = .ok (.slice (some ⟨B, off', none⟩) n (cap - lo)) w) ∧
      (convert 22 9 (.slice (some ⟨B, off', none⟩) n (cap - lo))).run Try.prog w = .ok (.string (strN ((l.drop lo).take n))) w := by
  subst hx hy
  refine ⟨if cap = lo then off else off + lo, fun w' => ?_, ?_⟩
  · rw [run_slice_lh w' 22 (some ⟨B, off, none⟩) l.length cap Try.underlying22 .i64 .i64 (lo : Int) ((lo : Int) + n) (by omega) (by omega) (by omega)]
    rw [size5 w']
    show Result.ok (sliced _ _ _ _ _) w' = _
    have e1 : ((lo : Int) + n).toNat = lo + n := by omega
    have e2 : ((lo : Int)).toNat = lo := by omega
    rw [e1, e2]
    unfold sliced
    have e3 : lo + n - lo = n := by omega
    by_cases h : cap = lo
    · rw [if_pos h, if_pos h, e3]
    · rw [if_neg h, if_neg h, e3]
      simp [add_lit]
  · refine run_convert_bytes_arg w 22 5 Try.underlying22 Try.underlying5 B _ n (cap - lo) _ (by simp; omega) (fun i hi => ?_) 9 Try.underlying9
    rw [if_neg (by omega), Nat.add_assoc, hr.2 (lo + i) (by omega)]
    simp only [List.getD, List.getElem?_map, List.getElem?_take, hi, if_true, List.getElem?_drop]
    rw [List.getElem?_eq_getElem (show lo + i < l.length by omega)]
    rfl
end Go.Proofs.Qxb6630051a
