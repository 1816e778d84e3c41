import Derived.Test.Qxb6630003aItem
namespace Go.Proofs.Qxb6630003a
open Go.RowKit

theorem strN_size (l : List Nat) : (strN l).size = l.length := by unfold strN; rw [strOfNums_size, List.length_map]
theorem nums_strN (l : List Nat) (h : ∀ c ∈ l, c < 256) : nums (strN l) = l := by
  unfold nums strN
  rw [strOfNums_data, List.map_map, List.map_map]
  have : ∀ l : List Nat, (∀ c ∈ l, c < 256) → l.map (UInt8.toNat ∘ (fun n : Int => UInt8.ofNat n.toNat) ∘ Int.ofNat) = l := by
    intro l; induction l with
    | nil => intro _; rfl
    | cons a l ih =>
      intro h
      rw [List.map_cons, ih fun c hc => h c (by simp [hc])]
      congr 1
      have := h a (by simp)
      simp
      omega
  exact this l h
/-- A byte of a string whose numbers are known. -/
theorem byte_at (t : ByteArray) (L : List Nat) (e : nums t = L) (i x : Nat) (h : i < t.size) (hx : L[i]? = some x) : t[i].toNat = x := by
  subst e
  rw [List.getElem?_eq_getElem (by rw [nums_len]; exact h), nums_at t i h] at hx
  exact Option.some.inj hx
theorem point_no (t : ByteArray) (L : List Nat) (e : nums t = L) (h : L ≠ [46]) : (t.toList == [46]) = false := by
  rw [ByteArray.toList_eq]
  cases hb : (t.data.toList == [46])
  · rfl
  · exfalso
    have := eq_of_beq hb
    apply h
    rw [← e, nums, this]; rfl

theorem hex_int (x : Nat) : (x : Int) / 16 * 16 + (x : Int) % 16 = x := by omega
theorem plain_46 (w : World) : Calls Try.prog 12 #[.int .u8 46] w fun e w' => e = .returned (.bool false) ∧ w' = w := plain_any 46 w
theorem plain_eq (i : Int) (n : Nat) (b : Bool) (h : i = n) (hb : plainC n = b) (w : World) : Calls Try.prog 12 #[.int .u8 i] w fun e w' => e = .returned (.bool b) ∧ w' = w := by
  subst h hb; exact plain_any n w

set_option maxHeartbeats 1000000 in
theorem decode_point (w : World) : Calls Try.prog 7 #[.string (strN [46])] w fun e w' => e = .returned (.tuple #[.string (strN []), .bool true]) ∧ Kept w w' := by
  have hp : ((strN [46]).toList == [46]) = true := by rw [ByteArray.toList_eq]; rfl
  go_enter Try.func7, Try.ntmps7
  go_wp2
  go_ret2
  exact ⟨rfl, Kept.refl _⟩

set_option maxHeartbeats 1000000 in
theorem decode_any (l : List Nat) (hl0 : l ≠ []) (hb : ∀ c ∈ l, c < 256) (hlen : l.length ≤ 1048576) (t : ByteArray) (ht : nums t = enc l) (w : World) :
    Calls Try.prog 7 #[.string t] w fun e w' => e = .returned (.tuple #[.string (strN l), .bool true]) ∧ Kept w w' := by
  obtain ⟨i0, hi, hz0, hz1, hz2⟩ := info_parts Try.info5
  have hp := point_no t _ ht (enc_ne l hl0)
  have hsz : t.size = (enc l).length := by rw [← ht, nums_len]
  have hszb : t.size ≤ 3145728 := by have := enc_le l; omega
  have hpos : 0 < l.length := List.length_pos_iff.2 hl0
  have hz : ((t.size : Int) == 0) = false := beq_eq_false_iff_ne.2 (by have := enc_ge l; omega)
  have HT := hid_mk ht; have HSZ := hid_mk hsz
  clear ht hsz
  obtain ⟨wm, hmk, hown0, hgr0⟩ := run_make_own (P := Try.prog) w w.heap.size 30 5 i0 (.int .u8 0) 1 Try.underlying30 hi hz0 hz1 .i64 .i64 t.size (by rw [hz2]; omega) (by unfold maxLen; omega) (Nat.le_refl _)
  have hbel0 : Below w.heap.size w wm := (Below.refl _ _).grown hgr0 (Nat.le_refl _) (by intro k h; cases h)
  go_enter Try.func7, Try.ntmps7
  go_wp2
  go_loopw [4, 5] (fun v i wr => ∃ k : Nat, k ≤ l.length ∧ i = .int .i64 ((enc (l.take k)).length : Nat) ∧ wr.ownsRow w.heap.size 5 1 v k (cellsN (l.take k)) ∧ Below w.heap.size w wr) (fun _ i _ => t.size - (intOf i).toNat)
  case atStart => exact ⟨0, Nat.zero_le _, rfl, hown0, hbel0⟩
  case round =>
    obtain ⟨k, hk, rfl, hown, hbel⟩ := hrel
    clear hmk hown0 hgr0 hbel0
    by_cases hlt : k < l.length
    · have h1 := enc_len_take l k hlt
      have h2 := tok_bd l[k]
      have hat := fun j hj => enc_at l k hlt j hj
      have HTK := hid_mk (enc_take_succ l k hlt)
      have hc256 : l[k] < 256 := hb _ (List.getElem_mem hlt)
      have HKS : Hid (cellsN (l.take (k + 1)) = cellsN (l.take k) ++ [.int .u8 (l[k] : Int)]) := by
        rw [List.take_succ_eq_append_getElem hlt, cellsN_app]; exact rfl
      rw [← HSZ.out] at h1
      generalize l[k] = x at *
      generalize hN : (enc (l.take k)).length = n at *
      have HN := hid_mk hN
      clear hN
      have hsize := hbel.size
      cases hpx : plainC x
      · have HTX : Hid (tok x = [46, hexd (x / 16), hexd (x % 16)]) := by unfold tok; rw [hpx]; exact rfl
        have hl3 : (tok x).length = 3 := by rw [HTX.out]; rfl
        have hn : n < t.size := by omega
        have hn1 : n + 1 < t.size := by omega
        have hn2 : n + 2 < t.size := by omega
        have hb0 : t[n].toNat = 46 := byte_at t _ HT.out n 46 hn (by have := hat 0 (by omega); rw [Nat.add_zero] at this; rw [this, HTX.out]; rfl)
        have hb1 : t[n + 1].toNat = hexd (x / 16) := byte_at t _ HT.out _ _ hn1 (by rw [hat 1 (by omega), HTX.out]; rfl)
        have hb2 : t[n + 2].toNat = hexd (x % 16) := byte_at t _ HT.out _ _ hn2 (by rw [hat 2 (by omega), HTX.out]; rfl)
        clear hat
        obtain ⟨y1, H1⟩ : ∃ y, Hid (hexd (x / 16) = y) := ⟨_, rfl⟩
        obtain ⟨y2, H2⟩ : ∃ y, Hid (hexd (x % 16) = y) := ⟨_, rfl⟩
        rw [H1.out] at hb1
        rw [H2.out] at hb2
        go_wp2_with (go_at_call 12; refine (plain_46 _).mono ?_; rintro e w' ⟨rfl, h'⟩; have h'' := h'.symm; clear h'; subst h'')
        refine (hexv_any y1 (x / 16) (by omega) H1 _).mono ?_
        rintro e w' ⟨rfl, h'⟩; have h'' := h'.symm; clear h'; subst h''
        go_wp2_with fail
        refine (hexv_any y2 (x % 16) (by omega) H2 _).mono ?_
        rintro e w' ⟨rfl, h'⟩; have h'' := h'.symm; clear h'; subst h''
        go_wp2_with fail
        refine (plain_eq _ x false (by omega) hpx _).mono ?_
        rintro e w' ⟨rfl, h'⟩; have h'' := h'.symm; clear h'; subst h''
        go_wp2_with (at_builtin; refine wpList_append_own _ rfl (.tmp 65) (.tmp 67) 30 rfl w.heap.size 5 i0 (.int .u8 0) 1 1 Try.underlying30 hi hz0 hz1 hz2 rfl (by decide) _ _ _ rfl (hown.alloc _) ⟨wr.heap.size, 0, none⟩ 1 1 [_] rfl rfl (cell_one_new _ _ _) (by simp [Value.oneCell']) (by unfold maxLen; omega) (by omega) (by simp; omega) ?_; intro v1 w1 hown1 hgrow1 _)
        have R1 : Below w.heap.size w w1 := (hbel.alloc hsize _).grown hgrow1 (by simp; omega) (fun g hg => (hown.lt g hg).1)
        clear hgrow1 hown hbel
        rw [hex_int x] at hown1
        go_roundw
        case rel => exact ⟨k + 1, by omega, by rw [HTK.out, HTX.out, List.length_append, HN.out]; go_num, by rw [HKS.out]; exact hown1, R1⟩
        case measure => simp [intOf]; omega
      · have HTX : Hid (tok x = [x]) := by unfold tok; rw [hpx]; exact rfl
        have hl1 : (tok x).length = 1 := by rw [HTX.out]; rfl
        have hn : n < t.size := by omega
        have hb0 : t[n].toNat = x := byte_at t _ HT.out n x hn (by have := hat 0 (by omega); rw [Nat.add_zero] at this; rw [this, HTX.out]; rfl)
        clear hat
        go_wp2_with (first
          | (go_at_call 12; refine (plain_any _ _).mono ?_; rintro e w' ⟨rfl, h'⟩; have h'' := h'.symm; clear h'; subst h'')
          | (at_builtin; refine wpList_append_own _ rfl (.tmp 27) (.tmp 29) 30 rfl w.heap.size 5 i0 (.int .u8 0) 1 1 Try.underlying30 hi hz0 hz1 hz2 rfl (by decide) _ _ _ rfl (hown.alloc _) ⟨wr.heap.size, 0, none⟩ 1 1 [.int .u8 (x : Int)] rfl rfl (cell_one_new _ _ _) (by simp [Value.oneCell']) (by unfold maxLen; omega) (by omega) (by simp; omega) ?_; intro v1 w1 hown1 hgrow1 _))
        have R1 : Below w.heap.size w w1 := (hbel.alloc hsize _).grown hgrow1 (by simp; omega) (fun g hg => (hown.lt g hg).1)
        clear hgrow1 hown hbel
        go_roundw
        case rel => exact ⟨k + 1, by omega, by rw [HTK.out, HTX.out, List.length_append, HN.out]; go_num, by rw [HKS.out]; exact hown1, R1⟩
        case measure => simp [intOf]; omega
    · have hke : k = l.length := by omega
      subst hke
      rw [List.take_length] at hown
      have hnl : (enc (l.take l.length)).length = t.size := by rw [List.take_length, HSZ.out]
      rw [hnl]
      rcases hown.2 with ⟨_, h0⟩ | ⟨g, cap, cur, hv, hg, hblk, hle, hmx, hcs, htk⟩
      · omega
      · have kb := run_convert_bytes_arg (P := Try.prog) wr 30 5 Try.underlying30 Try.underlying5 g 0 l.length cap (l.map Int.ofNat) (by simp) (fun i hi' => by
          have hown2 := hown
          rw [hv] at hown2
          rw [Nat.zero_add, hown2.cellAt i (by omega)]
          exact cells_nums l i hi') 9 Try.underlying9
        have HS : Hid (strOfNums (l.map Int.ofNat) = strN l) := hid_mk rfl
        rw [HS.out] at kb
        clear hblk htk hown hnl
        have hkept := Kept.below hbel
        clear hbel
        subst hv
        go_wp2
        go_ret2
        exact ⟨rfl, hkept⟩
end Go.Proofs.Qxb6630003a
