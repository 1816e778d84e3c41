import Derived.Test.Qxb6630003aDecode
namespace Go.Proofs.Qxb6630003a
open Go.RowKit

theorem item_ex (s : ByteArray) (hs : s.size ≤ 1048576) (w : World) :
    Calls Try.prog 6 #[.string s] w fun e w' => ∃ X, e = .returned (.string X) ∧ Hid (X = strN (nm (nums s))) ∧ Kept w w' :=
  (item_walk s hs w).mono fun _ _ ⟨h1, h2⟩ => ⟨_, h1, hid_mk rfl, h2⟩

theorem nums_app (a b : ByteArray) : nums (a ++ b) = nums a ++ nums b := by
  unfold nums; simp
theorem strN_app (a b : List Nat) : strN (a ++ b) = strN a ++ strN b := by
  refine ByteArray.ext (Array.toList_inj.1 ?_)
  simp [strN, strOfNums]
theorem nums_ne (s : ByteArray) (h : 0 < s.size) : nums s ≠ [] := by
  intro e; have := nums_len s; rw [e] at this; simp at this; omega
theorem sz (s : ByteArray) (h : 0 < s.size) : (strN (nm (nums s))).size = s.size + 2 * esc (nums s) := by
  rw [nm_ne _ (nums_ne s h), strN_size, enc_len, nums_len]
theorem join_both (a b : ByteArray) (ha : 0 < a.size) (hb : 0 < b.size) : strN (nm (nums (a ++ b))) = strN (nm (nums a)) ++ strN (nm (nums b)) := by
  rw [nm_ne _ (nums_ne a ha), nm_ne _ (nums_ne b hb), ← strN_app, ← enc_app, nums_app, nm_ne]
  intro e; exact nums_ne a ha (List.append_eq_nil_iff.1 e).1
theorem eq_yes {a b : ByteArray} (h : a = b) : (a.toList == b.toList) = true := by subst h; simp
theorem empty_of (a : ByteArray) (h : a.size = 0) : a = ByteArray.empty := by
  rw [← strN_nums a, nums_nil a h]; rfl

set_option maxHeartbeats 1000000 in
theorem split_both (a b : ByteArray) (ha : 0 < a.size) (hb : 0 < b.size) (hs : a.size + b.size ≤ 1048576) (w : World) :
    Calls Try.prog 4 #[.string a, .string b] w fun e w' => e = .returned (.bool true) ∧ Kept w w' := by
  have ha0 : ((a.size : Int) == 0) = false := beq_eq_false_iff_ne.2 (by omega)
  have hsz : (a ++ b).size = a.size + b.size := by simp
  have hea := esc_le (nums a)
  have heb := esc_le (nums b)
  rw [nums_len] at hea heb
  go_enter Try.func4, Try.ntmps4
  go_wp2_with (go_at_call 8; refine (bound2_yes a b hs _).mono ?_; rintro e w' ⟨rfl, h'⟩; have h'' := h'.symm; clear h'; subst h'')
  refine (item_ex (a ++ b) (by omega) _).mono ?_
  rintro e w1 ⟨X, rfl, HX, k1⟩
  go_wp2_with fail
  refine (item_ex a (by omega) _).mono ?_
  rintro e w2 ⟨XA, rfl, HA, k2⟩
  go_wp2_with fail
  refine (item_ex b (by omega) _).mono ?_
  rintro e w3 ⟨XB, rfl, HB, k3⟩
  go_wp2_with fail
  refine (count_any a (by omega) _).mono ?_
  rintro e w4 ⟨rfl, h'⟩; have h'' := h'.symm; clear h'; subst h''
  go_wp2_with fail
  refine (count_any b (by omega) _).mono ?_
  rintro e w5 ⟨rfl, h'⟩; have h'' := h'.symm; clear h'; subst h''
  have eX : X = XA ++ XB := by rw [HX.out, HA.out, HB.out]; exact join_both a b ha hb
  have sA := sz a ha
  have sB := sz b hb
  rw [← HA.out] at sA
  rw [← HB.out] at sB
  have h1 : XA.size + XB.size ≤ 9223372036854775807 := by omega
  have h2 : (X.toList == (XA ++ XB).toList) = true := eq_yes eX
  have h3 : ((X.size : Int) == (a.size : Int) + (b.size : Int) + 2 * (esc (nums a) : Nat) + 2 * (esc (nums b) : Nat)) = true := by
    rw [beq_iff_eq, eX, ByteArray.size_append]; omega
  clear eX sA sB
  go_wp2
  go_ret
  exact ⟨rfl, (k1.trans k2).trans k3⟩

set_option maxHeartbeats 1000000 in
theorem split_left (a b : ByteArray) (ha : 0 < a.size) (hb : b.size = 0) (hs : a.size + b.size ≤ 1048576) (w : World) :
    Calls Try.prog 4 #[.string a, .string b] w fun e w' => e = .returned (.bool true) ∧ Kept w w' := by
  have ha0 : ((a.size : Int) == 0) = false := beq_eq_false_iff_ne.2 (by omega)
  have hsz : (a ++ b).size = a.size + b.size := by simp
  have hea := esc_le (nums a)
  have heb := esc_le (nums b)
  rw [nums_len] at hea heb
  go_enter Try.func4, Try.ntmps4
  go_wp2_with (go_at_call 8; refine (bound2_yes a b hs _).mono ?_; rintro e w' ⟨rfl, h'⟩; have h'' := h'.symm; clear h'; subst h'')
  refine (item_ex (a ++ b) (by omega) _).mono ?_
  rintro e w1 ⟨X, rfl, HX, k1⟩
  go_wp2_with fail
  refine (item_ex a (by omega) _).mono ?_
  rintro e w2 ⟨XA, rfl, HA, k2⟩
  go_wp2_with fail
  refine (count_any a (by omega) _).mono ?_
  rintro e w4 ⟨rfl, h'⟩; have h'' := h'.symm; clear h'; subst h''
  go_wp2_with fail
  refine (count_any b (by omega) _).mono ?_
  rintro e w5 ⟨rfl, h'⟩; have h'' := h'.symm; clear h'; subst h''
  have eX : X = XA := by rw [HX.out, HA.out, empty_of b hb]; simp
  have eb : esc (nums b) = 0 := by rw [nums_nil b hb]; rfl
  have sA := sz a ha
  rw [← HA.out] at sA
  have h1 : XA.size + 0 ≤ 9223372036854775807 := by omega
  have h2 : (X.toList == (XA ++ (⟨#[]⟩ : ByteArray)).toList) = true := eq_yes (eX.trans ByteArray.append_empty.symm)
  have h3 : ((X.size : Int) == (a.size : Int) + 2 * (esc (nums a) : Nat) + 2 * (esc (nums b) : Nat)) = true := by
    rw [beq_iff_eq, eX]; omega
  clear eX sA eb
  go_wp2
  go_ret
  exact ⟨rfl, k1.trans k2⟩

set_option maxHeartbeats 1000000 in
theorem split_right (a b : ByteArray) (ha : a.size = 0) (hb : 0 < b.size) (hs : a.size + b.size ≤ 1048576) (w : World) :
    Calls Try.prog 4 #[.string a, .string b] w fun e w' => e = .returned (.bool true) ∧ Kept w w' := by
  have ha0 : ((a.size : Int) == 0) = true := beq_iff_eq.2 (by omega)
  have hb0 : ((b.size : Int) == 0) = false := beq_eq_false_iff_ne.2 (by omega)
  have hsz : (a ++ b).size = a.size + b.size := by simp
  have hea := esc_le (nums a)
  have heb := esc_le (nums b)
  rw [nums_len] at hea heb
  go_enter Try.func4, Try.ntmps4
  go_wp2_with (go_at_call 8; refine (bound2_yes a b hs _).mono ?_; rintro e w' ⟨rfl, h'⟩; have h'' := h'.symm; clear h'; subst h'')
  refine (item_ex (a ++ b) (by omega) _).mono ?_
  rintro e w1 ⟨X, rfl, HX, k1⟩
  go_wp2_with fail
  refine (item_ex b (by omega) _).mono ?_
  rintro e w3 ⟨XB, rfl, HB, k3⟩
  go_wp2_with fail
  refine (count_any a (by omega) _).mono ?_
  rintro e w4 ⟨rfl, h'⟩; have h'' := h'.symm; clear h'; subst h''
  go_wp2_with fail
  refine (count_any b (by omega) _).mono ?_
  rintro e w5 ⟨rfl, h'⟩; have h'' := h'.symm; clear h'; subst h''
  have eX : X = XB := by rw [HX.out, HB.out, empty_of a ha]; simp
  have ea : esc (nums a) = 0 := by rw [nums_nil a ha]; rfl
  have sB := sz b hb
  rw [← HB.out] at sB
  have h1 : 0 + XB.size ≤ 9223372036854775807 := by omega
  have h2 : (X.toList == ((⟨#[]⟩ : ByteArray) ++ XB).toList) = true := eq_yes (eX.trans ByteArray.empty_append.symm)
  have h3 : ((X.size : Int) == (b.size : Int) + 2 * (esc (nums a) : Nat) + 2 * (esc (nums b) : Nat)) = true := by
    rw [beq_iff_eq, eX]; omega
  clear eX sB ea
  go_wp2
  go_ret
  exact ⟨rfl, k1.trans k3⟩

set_option maxHeartbeats 1000000 in
theorem split_none (a b : ByteArray) (ha : a.size = 0) (hb : b.size = 0) (hs : a.size + b.size ≤ 1048576) (w : World) :
    Calls Try.prog 4 #[.string a, .string b] w fun e w' => e = .returned (.bool true) ∧ Kept w w' := by
  have ha0 : ((a.size : Int) == 0) = true := beq_iff_eq.2 (by omega)
  have hb0 : ((b.size : Int) == 0) = true := beq_iff_eq.2 (by omega)
  have hsz : (a ++ b).size = a.size + b.size := by simp
  go_enter Try.func4, Try.ntmps4
  go_wp2_with (go_at_call 8; refine (bound2_yes a b hs _).mono ?_; rintro e w' ⟨rfl, h'⟩; have h'' := h'.symm; clear h'; subst h'')
  refine (item_ex (a ++ b) (by omega) _).mono ?_
  rintro e w1 ⟨X, rfl, HX, k1⟩
  have h2 : (X.toList == [46]) = true := by
    rw [HX.out, empty_of a ha, empty_of b hb, ByteArray.toList_eq]; rfl
  go_wp2
  go_ret
  exact ⟨rfl, k1⟩

end Go.Proofs.Qxb6630003a
