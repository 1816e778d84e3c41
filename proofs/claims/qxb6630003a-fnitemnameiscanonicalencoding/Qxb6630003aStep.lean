import Derived.Test.Qxb6630003aLeaves2
import Derived.Lib.ConvBytes
import Derived.Laws.BytesArg
import Derived.Deep.Upon
import Derived.Deep.RegionLaw
namespace Go.Proofs.Qxb6630003a
open Go.RowKit

/-- A string out of numbers. -/
def strN (l : List Nat) : ByteArray := strOfNums (l.map Int.ofNat)
/-- Numbers as the cells of a row of bytes. -/
def cellsN (l : List Nat) : List Value := l.map fun c : Nat => Value.int .u8 (c : Int)
theorem cellsN_app (a b : List Nat) : cellsN (a ++ b) = cellsN a ++ cellsN b := by simp [cellsN]
theorem cellsN_len (a : List Nat) : (cellsN a).length = a.length := by simp [cellsN]
theorem strN_nums (s : ByteArray) : strN (nums s) = s := by
  have h : (strN (nums s)).data.toList = s.data.toList := by
    simp [strN, strOfNums, nums, List.map_map]
    have : ∀ l : List UInt8, l.map (((fun n : Int => UInt8.ofNat n.toNat) ∘ Int.ofNat) ∘ UInt8.toNat) = l := by
      intro l; induction l with
      | nil => rfl
      | cons a l ih => simp [ih]
    first | exact this _ | (rw [this]; done)
  exact ByteArray.ext (Array.toList_inj.1 h)

/-- append upon a row, as one step of a region that draws (the fellow of the kit's 'step_append_room'). -/
theorem step_append_upon {P : Program} {ops : Array Oper} {o : Oper} {a : Act} {w : World} {K : Act → World → Prop} {Q : Exit → Act → World → Prop} {E : Prop}
    (hgd : o.guard = none) (s x : Operand) (t tx : TypeId) (ho : o.op = Op.call { callee := Callee.builtin Builtin.append, args := #[s, x], argTypes := #[t, tx] })
    {W : World} {e : TypeId} {size : Nat} {ao : Option Addr} {b off len cap : Nat} {olds : List Value} (hc : Came W size ao b off len cap olds)
    (i : TypeInfo) (z : Value) (bytes : Nat) (ht : P.underlying t = some (.slice e)) (hi : P.info? e = some i) (hz : i.zero = some z) (hsize : i.size = size) (hby : i.bytes = bytes) (hzs : z.cells.size = size)
    {v : Value} {m : Nat} {ks : List Value} {r : Nat} (hv : a.eval s = v) (h : Upon W e size ao b off len cap olds w v m ks r)
    (xv : Value) (n : Nat) (news : List Value) (hx : a.eval x = xv) (hs : Src P size tx xv n news w) (h63 : len + m + n ≤ maxLen) (hbytes : (len + m + n) * bytes ≤ 140737488355328)
    (hK : ∀ v' w', Upon W e size ao b off len cap olds w' v' (m + n) (ks ++ news) (Upon.next len cap size m r n) → K (a.put o.dst v') w') :
    if Region.wanted o (yielded ops a.tmps) = true then Oper.wp P o a w K Q else E := by
  have hw : Region.wanted o (yielded ops a.tmps) = true := by simp [Region.wanted, hgd]
  rw [if_pos hw]
  obtain ⟨v', w', hrun, r'⟩ := run_append_upon (P := P) hc t tx o.type i z bytes ht hi hz hsize hby hzs h xv n news hs h63 hbytes
  unfold Oper.wp
  simp [execOp, ho, resolve, invoke, builtin, hv, hx, hrun, Result.andThen]
  exact hK v' w' r'

/-- Of what was there nothing has turned. -/
def Kept (w w' : World) : Prop := w.keptBut w' (fun _ => False) ∧ w.heap.size ≤ w'.heap.size
theorem Kept.refl (w : World) : Kept w w := ⟨World.keptBut_refl _ _, Nat.le_refl _⟩
theorem Kept.trans {a b c : World} (h : Kept a b) (k : Kept b c) : Kept a c := ⟨World.keptBut_trans h.1 k.1, Nat.le_trans h.2 k.2⟩
theorem Kept.below {w w' : World} (h : Below w.heap.size w w') : Kept w w' := ⟨h.frame _, h.size⟩
theorem Kept.only {w w' : World} (may : MemPlace → Prop) (hm : ∀ p, may p → w.heap.size ≤ p.block) (h : w.keptBut w' may) (hs : w.heap.size ≤ w'.heap.size) : Kept w w' := by
  refine ⟨⟨h.1, h.2.1, fun i hi => ?_⟩, hs⟩
  have h3 := h.2.2 i hi
  revert h3
  split
  · intro ⟨h1, h2, h4, h5⟩
    exact ⟨h1, h2, h4, fun j _ => h5 j fun hc => by have := hm _ hc; exact absurd hi (Nat.not_lt.2 this)⟩
  · intro h1
    rcases h1 with h1 | h1
    · have := hm _ h1; exact absurd hi (Nat.not_lt.2 this)
    · exact Or.inr h1
  · exact id

/-- Behind a string's conversion the world has one row more. -/
theorem below_bytes (w : World) (e : TypeId) (s : ByteArray) : Below w.heap.size w (Lib.bytesWorld w e s) :=
  ⟨rfl, rfl, rfl, by rw [Lib.bytesWorld_size]; omega, fun k hk => Lib.bytesWorld_at_old w e s k hk⟩

theorem ext_at (s : ByteArray) (a b j : Nat) (h : a + j < b) : (s.extract a b).data.toList.getD j 0 = s.data.toList.getD (a + j) 0 := by
  have : (s.extract a b).data = s.data.extract a b := by simp
  rw [this]
  simp [List.getD, List.getElem?_take, List.getElem?_drop]
  rw [if_pos (by omega)]

/-- THE WORLD BEHIND THE TWO CONVERSIONS '[]byte(key[:k])' AND '[]byte(key[k:])'. -/
theorem two_rows (w : World) (s : ByteArray) (k : Nat) (hk : k ≤ s.size) (hs : s.size ≤ 1048576) :
    Came (Lib.bytesWorld (Lib.bytesWorld w 5 (s.extract 0 k)) 5 (s.extract k s.size)) 1 (some ⟨w.heap.size, 0, none⟩) w.heap.size 0 k (grownCap w k 0 5) (cellsN ((nums s).take k)) ∧
    (∀ j (h : k + j < s.size), (Lib.bytesWorld (Lib.bytesWorld w 5 (s.extract 0 k)) 5 (s.extract k s.size)).cell? ⟨w.heap.size + 1, j, none⟩ = some (.int .u8 (s[k + j].toNat : Int))) ∧
    Below w.heap.size w (Lib.bytesWorld (Lib.bytesWorld w 5 (s.extract 0 k)) 5 (s.extract k s.size)) ∧
    (Lib.bytesWorld (Lib.bytesWorld w 5 (s.extract 0 k)) 5 (s.extract k s.size)).heap.size = w.heap.size + 2 ∧
    k ≤ grownCap w k 0 5 ∧ grownCap w k 0 5 ≤ maxLen := by
  have hz1 : (s.extract 0 k).size = k := by simp; omega
  have hz2 : (s.extract k s.size).size = s.size - k := by simp
  have hw1 := Lib.bytesWorld_size w 5 (s.extract 0 k)
  have hge := grownCap_ge w k 0 5
  have hmx := grownCap_le_maxLen w k 0 5 (by unfold maxLen; omega)
  have hblk : (Lib.bytesWorld (Lib.bytesWorld w 5 (s.extract 0 k)) 5 (s.extract k s.size)).heap[w.heap.size]? = some (.cells (Lib.bytesCells w 5 (s.extract 0 k)) 5 ((Lib.bytesCells w 5 (s.extract 0 k)).size, (Lib.bytesCells w 5 (s.extract 0 k)).size + 1)) := by
    rw [Lib.bytesWorld_at_old _ _ _ _ (by omega), Lib.bytesWorld_at_new]
  have hcs : (Lib.bytesCells w 5 (s.extract 0 k)).size = grownCap w k 0 5 := by
    simp only [Lib.bytesCells, Array.size_append, Array.size_map, Array.size_replicate]
    have : (s.extract 0 k).data.size = k := hz1
    rw [this, hz1]; omega
  refine ⟨⟨hge, fun _ => rfl, fun _ => by rw [Lib.bytesWorld_size, hw1]; omega, by rw [cellsN_len, List.length_take, nums_len]; omega, ?_, ?_⟩, ?_, ?_, ?_, hge, hmx⟩
  · intro j u hj
    have hjk : j < k := by
      rcases Nat.lt_or_ge j k with h | h
      · exact h
      · rw [List.getElem?_eq_none (by rw [cellsN_len, List.length_take, nums_len]; omega)] at hj; cases hj
    rw [Nat.zero_add, Lib.bytesWorld_old _ _ _ _ (by show w.heap.size < _; omega), Lib.bytesWorld_cell _ _ _ _ (by omega), ext_at s 0 k j (by omega)]
    rw [← hj]
    simp only [Nat.zero_add, cellsN, List.getElem?_map, List.getElem?_take, hjk, if_true, nums]
    rw [List.getElem?_eq_getElem (show j < s.data.toList.length from Nat.lt_of_lt_of_le hjk hk)]
    simp [List.getElem?_eq_getElem (show j < s.data.toList.length from Nat.lt_of_lt_of_le hjk hk)]
  · intro j hj
    have hlt : 0 + k * 1 + j < (Lib.bytesCells w 5 (s.extract 0 k)).size := by rw [hcs]; omega
    constructor
    · simp only [World.cell?, hblk]
      simp
      omega
    · simp only [World.frozen?, hblk]
      simp
      omega
  · intro j hj
    have := Lib.bytesWorld_cell (Lib.bytesWorld w 5 (s.extract 0 k)) 5 (s.extract k s.size) j (by omega)
    rw [hw1] at this
    rw [this, ext_at s k s.size j hj]
    simp [List.getD, List.getElem?_eq_getElem (show k + j < s.data.toList.length from hj)]
    rfl
  · exact (below_bytes w 5 _).trans ((below_bytes _ 5 _).mono (by omega))
  · rw [Lib.bytesWorld_size, hw1]
end Go.Proofs.Qxb6630003a
