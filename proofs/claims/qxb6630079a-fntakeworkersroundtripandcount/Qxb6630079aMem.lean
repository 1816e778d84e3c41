import Derived.Test.Qxb6630079aRows
import Derived.Test.Qxb6630079aPlain
import Derived.WalkKit
import Derived.WalkSpells
import Derived.WalkLawsBesides
import Derived.Maps.OwnOps
import Derived.Maps.OwnSet
import Derived.Deep.QuietTactic
import Derived.BigQuiet
import Derived.Lib.SliceRun
namespace Go.Proofs.Qxb6630079a
open Go.RowKit Go.Maps

theorem hid_mk {p : Prop} (h : p) : Hid p := h
theorem ret_bool {a b : Bool} (h : a = b) : Ending.returned (.bool a) = .returned (.bool b) := by rw [h]
theorem below_drewN {B : Nat} {a w : World} (h : Below B a w) (q : Nat) : Below B a (w.drewN q) := ⟨h.os, h.tape, h.output, h.size, h.block⟩
theorem cell_stays {w w' : World} {a : Addr} {v : Value} (h : w.cell? a = some v) (hb : Below w.heap.size w w') : w'.cell? a = some v := (hb.cell (World.block_lt_of_cell? w a h)).trans h
theorem add_lit (B off k : Nat) : (⟨B, off, none⟩ : Addr).add k = ⟨B, off + k, none⟩ := by unfold Addr.add; split <;> simp_all

theorem Try.info9 : (Try.prog.info? 9).map (fun i => (i.zero, i.size, i.bytes)) = some (some (.string ⟨#[]⟩), 1, 16) := by kernel_rfl
theorem Try.info33 : (Try.prog.info? 33).map (fun i => (i.zero, i.size, i.bytes)) = some (some (.agg #[.string ⟨#[]⟩, .slice none 0 0, .string ⟨#[]⟩, .int .i64 0, .bool false]), 5, 72) := by kernel_rfl
theorem Try.info38 : (Try.prog.info? 38).map (fun i => (i.zero, i.size, i.bytes)) = some (some (.agg #[.string ⟨#[]⟩, .slice none 0 0, .string ⟨#[]⟩, .int .i64 0]), 4, 64) := by kernel_rfl
theorem Try.info39 : (Try.prog.info? 39).map (fun i => (i.zero, i.size, i.bytes)) = some (some (.pointer none), 1, 8) := by kernel_rfl
theorem Try.zero39 (w : World) : (zeroValue 39).run Try.prog w = .ok (.pointer none) w := by kernel_rfl
theorem Try.law9 : Keyed Try.prog 9 := string_keyed Try.underlying9

/-- A slice of strings reads as nil (none) or as the strings ss. -/
def Q (w : World) (v : Value) (oq : Option (List ByteArray)) : Prop :=
  (oq = none ∧ v = .slice none 0 0) ∨ ∃ ss a cap, oq = some ss ∧ v = .slice (some a) ss.length cap ∧ ∀ j (h : j < ss.length), w.cell? (a.add j) = some (.string ss[j])
theorem Q.stays {w w' : World} {v : Value} {oq : Option (List ByteArray)} (h : Q w v oq) (hb : Below w.heap.size w w') : Q w' v oq := by
  rcases h with h | ⟨ss, a, cap, h1, h2, h3⟩
  · exact .inl h
  · exact .inr ⟨ss, a, cap, h1, h2, fun j hj => cell_stays (h3 j hj) hb⟩

/-! ### The map from names to workers: the element's reader tells the worker's block -/
def ptrElem (v : Value) : Option (DataW Unit × List MemPlace) :=
  match v with
  | .pointer none => some (.nil, [])
  | .pointer (some ⟨p, 0, none⟩) => some (.lit (.int .i64 (p : Int)), [])
  | _ => none
theorem ptrElem_nil : ptrElem (.pointer none) = some (.nil, []) := rfl
theorem ptrElem_mk (p : Nat) : ptrElem (.pointer (some ⟨p, 0, none⟩)) = some (.lit (.int .i64 (p : Int)), []) := rfl
theorem ptrElem_inv_nil {v : Value} {ps : List MemPlace} (h : ptrElem v = some (.nil, ps)) : v = .pointer none := by
  unfold ptrElem at h
  split at h
  · rfl
  · simp at h
  · cases h
theorem ptrElem_inv {v : Value} {p : Nat} {ps : List MemPlace} (h : ptrElem v = some (.lit (.int .i64 (p : Int)), ps)) : v = .pointer (some ⟨p, 0, none⟩) := by
  unfold ptrElem at h
  split at h
  · simp at h
  · simp at h
    rename_i p'
    obtain rfl : p' = p := by omega
    rfl
  · cases h
/-- What the map tells of a name. -/
def pd : Option Nat → DataW Unit
  | none => .nil
  | some p => .lit (.int .i64 (p : Int))
/-- Block b is a map of at most n names; f tells the worker's block of each name. -/
def PM (w : World) (b n : Nat) (f : List UInt8 → Option Nat) : Prop :=
  ∃ D : DataW Unit, w.ownsMap Try.prog 9 ptrElem b n D ∧ ∀ x : List UInt8, D.atKey (.string x) .nil = pd (f x)
theorem PM.made (w : World) : PM (w.alloc (.map #[] 0)) w.heap.size 0 (fun _ => none) :=
  ⟨.map [], World.ownsMap_made w _ _ _, fun _ => rfl⟩
theorem PM.kept {w w' : World} {b n : Nat} {f : List UInt8 → Option Nat} {row : Option Nat} (h : PM w b n f) (hg : w.grownBy w' row) (hne : some b ≠ row) : PM w' b n f := by
  obtain ⟨D, h1, h2⟩ := h
  exact ⟨D, h1.kept hg hne, h2⟩
theorem PM.lt {w : World} {b n : Nat} {f : List UInt8 → Option Nat} (h : PM w b n f) : b < w.heap.size := by
  obtain ⟨D, h1, _⟩ := h; exact h1.lt
theorem PM.below {w w' : World} {b n : Nat} {f : List UInt8 → Option Nat} (h : PM w b n f) (hb : Below (b + 1) w w') : PM w' b n f := by
  obtain ⟨D, ⟨es, clock, h1, h3⟩, h2⟩ := h
  exact ⟨D, ⟨es, clock, (hb.block b (by omega)).trans h1, h3⟩, h2⟩
theorem key_ok (s : ByteArray) (hs : s.size ≤ maxLen) : keyOf Try.prog 9 (.string s) = some (.string s.data.toList) := WideMaps.keyOf_string_mk Try.underlying9 hs
theorem PM.look_none {w : World} {b n : Nat} {f : List UInt8 → Option Nat} (h : PM w b n f) {s : ByteArray} (hs : s.size ≤ maxLen) (hf : f s.data.toList = none) :
    (Instr.lookup 49 (.map (some b)) (.string s) false).run Try.prog w = .ok (.pointer none) w := by
  obtain ⟨D, h1, h2⟩ := h
  obtain ⟨v, ps, hrun, hv⟩ := h1.lookup Try.law9 Try.underlying49 (Try.zero39 w) ptrElem_nil (key_ok s hs)
  rw [h2, hf] at hv
  rw [hrun, ptrElem_inv_nil hv]
theorem PM.look_some {w : World} {b n : Nat} {f : List UInt8 → Option Nat} (h : PM w b n f) {s : ByteArray} (hs : s.size ≤ maxLen) {p : Nat} (hf : f s.data.toList = some p) :
    (Instr.lookup 49 (.map (some b)) (.string s) false).run Try.prog w = .ok (.pointer (some ⟨p, 0, none⟩)) w := by
  obtain ⟨D, h1, h2⟩ := h
  obtain ⟨v, ps, hrun, hv⟩ := h1.lookup Try.law9 Try.underlying49 (Try.zero39 w) ptrElem_nil (key_ok s hs)
  rw [h2, hf] at hv
  rw [hrun, ptrElem_inv hv]
theorem PM.put {w : World} {b n : Nat} {f : List UInt8 → Option Nat} (h : PM w b n f) (hn : n < maxLen) {s : ByteArray} (hs : s.size ≤ maxLen) (p : Nat) :
    ∃ w', (Instr.mapUpdate 49 (.map (some b)) (.string s) (.pointer (some ⟨p, 0, none⟩))).run Try.prog w = .ok () w' ∧ PM w' b (n + 1) (fun x => if s.data.toList = x then some p else f x) ∧ w.grownBy w' (some b) := by
  obtain ⟨D, h1, h2⟩ := h
  obtain ⟨w', hrun, h3, h4⟩ := h1.update Try.law9 Try.underlying49 hn (key_ok s hs) (ptrElem_mk p)
  refine ⟨w', hrun, ⟨_, h3, fun x => ?_⟩, h4⟩
  by_cases e : s.data.toList = x
  · subst e
    rw [atKey_put_same h1.isMap (by simp [WideAt.IsKeyLit]) _ _]; simp [pd]
  · rw [atKey_put_other (by simpa using fun e' => e e'.symm), h2]; simp [e]
end Go.Proofs.Qxb6630079a
