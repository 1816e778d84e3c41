/- The proof of Rows.FnItemNameIsCanonicalEncodingSaid: the guide's frame; what was there is kept ('Kept'). -/
import Derived.Test.Qxb6630003aRows
import Derived.WalkKit
import Derived.ProofKit
import Derived.OpenShut
import Derived.ShutString
import Derived.Test.Qxb6630003aDecode
namespace Go.Proofs.Qxb6630003a.fnItemNameIsCanonicalEncoding
open Go.ChangeShapes Go.WideShapes Go.ChangeAt Go.RowKit
open Go.ChangeMaps (open_string shut_string)
set_option linter.unusedVariables false      -- a walk need not use every 'w<i>' (that an integer argument fits its kind)

theorem own : ownKnob Try.prog.godebug = none := by kernel_rfl

theorem walk (a0 : ByteArray) (w0 : a0.size ≤ maxLen) (w : World) :
    Calls Try.prog 3 #[.string a0] w fun e w' => e = .returned (.bool true) ∧ Kept w w' := by
  by_cases h : 1048576 < a0.size
  · go_enter Try.func3, Try.ntmps3
    go_wp2_with (go_at_call 5; refine (bound1_no a0 h w0 _).mono ?_; rintro e w' ⟨rfl, rfl⟩)
    go_ret
    exact ⟨rfl, Kept.refl _⟩
  · have h' : a0.size ≤ 1048576 := by omega
    have hself : (a0.toList == a0.toList) = true := by simp
    by_cases h0 : a0.size = 0
    · have e0 : strN (nm (nums a0)) = strN [46] := by rw [nums_nil a0 h0]; rfl
      have E1 : Hid (strN [] = a0) := by rw [← nums_nil a0 h0, strN_nums]; exact rfl
      go_enter Try.func3, Try.ntmps3
      go_wp2_with (go_at_call 5; refine (bound1_yes a0 h' _).mono ?_; rintro e w' ⟨rfl, h'⟩; have h'' := h'.symm; clear h'; subst h'')
      refine (item_walk a0 h' _).mono ?_
      rintro e w1 ⟨rfl, k1⟩
      go_wp2_with fail
      refine (decode_point _).mono ?_
      rintro e w2 ⟨rfl, k2⟩
      rw [E1.out]
      go_wp2
      go_ret
      exact ⟨rfl, k1.trans k2⟩
    · have hne : nums a0 ≠ [] := by intro e; have := nums_len a0; rw [e] at this; simp at this; omega
      have e1 : strN (nums a0) = a0 := strN_nums a0
      have e2 : nums (strN (nm (nums a0))) = enc (nums a0) := by rw [nm_ne _ hne]; exact nums_strN _ (enc_lt _ (nums_lt a0))
      have E1 := hid_mk e1; have E2 := hid_mk e2
      clear e1 e2
      go_enter Try.func3, Try.ntmps3
      go_wp2_with (go_at_call 5; refine (bound1_yes a0 h' _).mono ?_; rintro e w' ⟨rfl, h'⟩; have h'' := h'.symm; clear h'; subst h'')
      refine (item_walk a0 h' _).mono ?_
      rintro e w1 ⟨rfl, k1⟩
      go_wp2_with fail
      refine (decode_any (nums a0) hne (nums_lt a0) (by rw [nums_len]; exact h') _ E2.out _).mono ?_
      rintro e w2 ⟨rfl, k2⟩
      rw [E1.out]
      go_wp2
      go_ret
      exact ⟨rfl, k1.trans k2⟩

/-! ### THE ROW's STEP: WRITTEN OUT: LEAVE IT -/
set_option maxRecDepth 100000 in
theorem lifted (os : Os) (started : os.Started) (H : Type) (enc : TypeId × Value → H) :
    ReturnsInHanded {} Try.checked os 3 .any (Rows.fnItemNameIsCanonicalEncodingSpec.pre6 enc Try.prog Try.f3 Rows.fnItemNameIsCanonicalEncodingRow.domain false) (Rows.fnItemNameIsCanonicalEncodingSpec.post enc Try.prog Try.f3 false true false false) := by
  refine returnsInHanded_of_change (C := Try.checked) own started (by kernel_rfl) Try.func3
    (ChangeSpec.witness6 (enc := enc) (C := Try.checked) false ⟨#[], #[.string ByteArray.empty], []⟩ 8 (by kernel_rfl) (by kernel_rfl) (by kernel_rfl) (by kernel_rfl)) ?_
  intro W base args ds gs before hval0 hW hcnd _
  have hval : ∀ (j : Nat) t v, Try.f3.params[j]? = some t → args[j]? = some v → Value.okWide Try.prog W .any base t v := hval0
  have hW' := hW
  obtain ⟨p, q, hA0, hV, rfl, hfz, hnd⟩ := hW
  have hA : DataW.TrodAll enc Try.prog W 0 (fun _ => true) true Try.f3.params.toList args.toList ds p := hA0
  rw [Try.params3] at hA hval
  obtain ⟨v0, vs0, d0, ds0, p0, q0, hargs, rfl, rfl, h0, r0⟩ := trodAll_cons hA
  obtain ⟨rfl, rfl, rfl⟩ := trodAll_nil r0
  obtain rfl : args = #[v0] := by cases args; simp_all
  obtain ⟨rfl, rfl⟩ := trodVars_none hV
  obtain ⟨a0, rfl, rfl, rfl, w0⟩ := open_string Try.underlying9 (hval 0 9 v0 rfl rfl) h0
  clear hA0 hval0
  simp only [List.append_nil] at hW'
  refine (walk a0 w0 W).mono fun e W' ⟨he, hg⟩ => ?_
  subst he
  exact ⟨_, rfl, _, _, _, [], _, [], hW', trodAll_mk1 (shut_bool Try.underlying4 _), (trodAll_cons_mk (shut_string Try.underlying9 w0) trodAll_mk0), rfl, World.keptBut_mono (fun _ f => f.elim) hg.1, fun h => by cases h⟩

theorem over : Rows.fnItemNameIsCanonicalEncodingRow.holds Try.pinned (OpenSpec.ofChange Rows.fnItemNameIsCanonicalEncodingSpec) :=
  OpenClaim.holds_of_wide 3 Try.f3 rfl rfl rfl rfl rfl rfl rfl ⟨rfl, rfl, rfl, rfl, rfl⟩ rfl rfl rfl rfl rfl (by kernel_rfl) Try.func3 (by kernel_rfl)
    (of_decide_eq_true (by kernel_rfl)) (by unfold Func.isWrapper; first | (rw [if_pos (by decide +kernel)]; kernel_rfl) | (rw [if_neg (by decide +kernel)]; exact ⟨rfl, rfl⟩))
    (fun os started H enc _ => lifted os started H enc)

/-- ████ THE STATEMENT ████ -/
theorem proved : Rows.FnItemNameIsCanonicalEncodingSaid :=
  over
end Go.Proofs.Qxb6630003a.fnItemNameIsCanonicalEncoding
