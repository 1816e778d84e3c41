import Derived.Test.Qxb6630003aLeaves
namespace Go.Proofs.Qxb6630003a
open Go.RowKit

theorem clos_eq (n : Nat) (h : ¬ n = 46) : (((n : Int) != 46) && (plainC n || n == 46)) = plainC n := by
  have h1 : ((n : Int) != 46) = true := by simp; omega
  have h2 : (n == 46) = false := by simpa using h
  rw [h1, h2]; simp

/-- The closure 'plain' of ItemName. -/
theorem clos_any (n : Nat) (h : n < 256) (w : World) : Calls Try.prog 10 #[.int .u8 (n : Int)] w fun e w' => e = .returned (.bool (plainC n)) ∧ w' = w := by
  by_cases h46 : n = 46
  · subst h46
    go_enter Try.func10, Try.ntmps10
    go_wp2
    go_ret
    exact ⟨rfl, rfl⟩
  · have h46' : ((n : Int) == 46) = false := by simp; omega
    go_enter Try.func10, Try.ntmps10
    go_wp2_with (go_at_call 11; refine (item_any n _).mono ?_; rintro e w' ⟨rfl, rfl⟩)
    go_ret
    exact ⟨ret_bool (clos_eq n h46), rfl⟩

/-- 'zzHexVal' of a hexadecimal digit. -/
theorem hexv_any (c n : Nat) (hn : n < 16) (hc : Hid (hexd n = c)) (w : World) : Calls Try.prog 13 #[.int .u8 (c : Int)] w fun e w' => e = .returned (.int .i64 (n : Int)) ∧ w' = w := by
  have hc' := hc.out
  unfold hexd at hc'
  by_cases h : n < 10
  · rw [if_pos h] at hc'
    have h1 : 48 ≤ c := by omega
    have h2 : c ≤ 57 := by omega
    have H : Hid (48 + n = c) := hc'
    clear hc' hc
    go_enter Try.func13, Try.ntmps13
    go_wp2
    go_ret
    exact ⟨ret_int (by have := H.out; omega), rfl⟩
  · rw [if_neg h] at hc'
    have h1 : 97 ≤ c := by omega
    have h2 : c ≤ 102 := by omega
    have H : Hid (87 + n = c) := hc'
    clear hc' hc
    go_enter Try.func13, Try.ntmps13
    go_wp2
    go_ret
    exact ⟨ret_int (by have := H.out; omega), rfl⟩

theorem bound1_yes (s : ByteArray) (h : s.size ≤ 1048576) (w : World) : Calls Try.prog 5 #[.string s] w fun e w' => e = .returned (.bool true) ∧ w' = w := by
  go_enter Try.func5, Try.ntmps5
  go_wp2
  go_ret
  exact ⟨rfl, rfl⟩
theorem bound1_no (s : ByteArray) (h : 1048576 < s.size) (hm : s.size ≤ maxLen) (w : World) : Calls Try.prog 5 #[.string s] w fun e w' => e = .returned (.bool false) ∧ w' = w := by
  unfold maxLen at hm
  go_enter Try.func5, Try.ntmps5
  go_wp2
  go_ret
  exact ⟨rfl, rfl⟩
theorem bound2_yes (s t : ByteArray) (h : s.size + t.size ≤ 1048576) (w : World) : Calls Try.prog 8 #[.string s, .string t] w fun e w' => e = .returned (.bool true) ∧ w' = w := by
  go_enter Try.func8, Try.ntmps8
  go_wp2
  go_ret
  exact ⟨rfl, rfl⟩
theorem bound2_no (s t : ByteArray) (h : 1048576 < s.size + t.size) (hm : s.size ≤ maxLen) (hm2 : t.size ≤ maxLen) (w : World) : Calls Try.prog 8 #[.string s, .string t] w fun e w' => e = .returned (.bool false) ∧ w' = w := by
  unfold maxLen at hm hm2
  by_cases h1 : 1048576 < s.size
  · go_enter Try.func8, Try.ntmps8
    go_wp2
    go_ret
    exact ⟨rfl, rfl⟩
  · by_cases h2 : 1048576 < t.size
    · go_enter Try.func8, Try.ntmps8
      go_wp2
      go_ret
      exact ⟨rfl, rfl⟩
    · go_enter Try.func8, Try.ntmps8
      go_wp2
      go_ret
      exact ⟨rfl, rfl⟩

/-- A string's bytes as numbers. -/
def nums (s : ByteArray) : List Nat := s.data.toList.map UInt8.toNat
theorem nums_len (s : ByteArray) : (nums s).length = s.size := by simp [nums]
theorem nums_at (s : ByteArray) (k : Nat) (h : k < s.size) : (nums s)[k]'(by rw [nums_len]; exact h) = s[k].toNat := by
  simp [nums]; rfl
theorem nums_take (s : ByteArray) (k : Nat) (h : k < s.size) : (nums s).take (k + 1) = (nums s).take k ++ [s[k].toNat] := by
  rw [List.take_succ_eq_append_getElem (by rw [nums_len]; exact h), nums_at s k h]
theorem nums_lt (s : ByteArray) : ∀ c ∈ nums s, c < 256 := by
  intro c hc
  obtain ⟨b, _, rfl⟩ := List.mem_map.1 hc
  exact b.toNat_lt

set_option maxHeartbeats 400000 in
/-- 'zzCountEscaped'. -/
theorem count_any (s : ByteArray) (hs : s.size ≤ 1048576) (w : World) : Calls Try.prog 9 #[.string s] w fun e w' => e = .returned (.int .i64 (esc (nums s) : Nat)) ∧ w' = w := by
  go_enter Try.func9, Try.ntmps9
  go_wp2
  go_loop [3, 4] (fun n i => ∃ k : Nat, k ≤ s.size ∧ i = .int .i64 k ∧ n = .int .i64 (esc ((nums s).take k) : Nat)) (fun _ i => s.size - (intOf i).toNat)
  case atStart => exact ⟨0, Nat.zero_le _, rfl, rfl⟩
  case round =>
    obtain ⟨k, hk, rfl, rfl⟩ := hrel
    have hd := esc_le ((nums s).take k)
    have hl : ((nums s).take k).length ≤ k := List.length_take_le _ _
    obtain ⟨E, hE⟩ : ∃ E, esc ((nums s).take k) = E := ⟨_, rfl⟩
    rw [hE] at hd ⊢
    by_cases hlt : k < s.size
    · have HS : Hid (esc ((nums s).take (k + 1)) = E + if plainC s[k].toNat = true then 0 else 1) := by
        rw [nums_take s k hlt, esc_snoc, hE]; exact rfl
      clear hE
      cases hp : plainC s[k].toNat
      · have HP : Hid (esc ((nums s).take (k + 1)) = E + 1) := by rw [HS.out, hp]; rfl
        go_wp2_with (go_at_call 12; refine (plain_any _ _).mono ?_; rintro e w' ⟨rfl, rfl⟩)
        go_round
        case rel => exact ⟨k + 1, by omega, by go_num, by rw [HP.out]; go_num⟩
        case measure => simp [intOf]; omega
      · have HP : Hid (esc ((nums s).take (k + 1)) = E) := by rw [HS.out, hp]; rfl
        go_wp2_with (go_at_call 12; refine (plain_any _ _).mono ?_; rintro e w' ⟨rfl, rfl⟩)
        go_round
        case rel => exact ⟨k + 1, by omega, by go_num, by rw [HP.out]⟩
        case measure => simp [intOf]; omega
    · have HE : Hid (esc (nums s) = E) := by rw [← hE, List.take_of_length_le (by rw [nums_len]; omega)]; exact rfl
      clear hE
      go_wp2
      go_ret
      exact ⟨ret_int (by rw [HE.out]), rfl⟩
end Go.Proofs.Qxb6630003a
