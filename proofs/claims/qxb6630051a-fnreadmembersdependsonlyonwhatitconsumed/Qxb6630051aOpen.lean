import Derived.Test.Qxb6630051aLaw1
import Derived.OpenShut
namespace Go.Proofs.Qxb6630051a
open Go.RowKit

/-- The numbers of a row of bytes that came in, up to its length. -/
def bytesOf (zs : List Int) (len : Nat) : List Nat := (zs.take len).map Int.toNat
theorem bytesOf_len (zs : List Int) (len : Nat) (h : len ≤ zs.length) : (bytesOf zs len).length = len := by
  unfold bytesOf; rw [List.length_map, List.length_take]; omega
theorem bytesOf_lt (zs : List Int) (len : Nat) (h : ∀ n ∈ zs, (Lit.int .u8 n).wf = true) : ∀ c ∈ bytesOf zs len, c < 256 := by
  intro c hc
  obtain ⟨n, hn, rfl⟩ := List.mem_map.1 hc
  have := bounds_u8 (h n (List.mem_of_mem_take hn))
  omega
theorem bytesOf_at (zs : List Int) (len : Nat) (hl : len ≤ zs.length) (h : ∀ n ∈ zs, (Lit.int .u8 n).wf = true) (j : Nat) (hj : j < len) : (((bytesOf zs len).getD j 0 : Nat) : Int) = zs.getD j 0 := by
  unfold bytesOf
  have h1 : j < zs.length := by omega
  have h2 := bounds_u8 (h _ (List.getElem_mem h1))
  simp only [List.getD, List.getElem?_map, List.getElem?_take, hj, if_true]
  rw [List.getElem?_eq_getElem h1]
  simp
  omega
end Go.Proofs.Qxb6630051a
