import Derived.Test.Qxb6630003aStep
namespace Go.Proofs.Qxb6630003a
open Go.RowKit

theorem Try.info5 : (Try.prog.info? 5).map (fun i => (i.zero, i.size, i.bytes)) = some (some (.int .u8 0), 1, 1) := by kernel_rfl

theorem empty_no (s : ByteArray) (h : 0 < s.size) : s.toList.isEmpty = false := by
  rw [ByteArray.toList_eq]
  cases hl : s.data.toList with
  | nil =>
    have : s.data.toList.length = s.size := rfl
    rw [hl] at this; simp at this; omega
  | cons _ _ => rfl
theorem empty_yes (s : ByteArray) (h : s.size = 0) : s.toList.isEmpty = true := by
  rw [ByteArray.toList_eq]
  have : s.data.toList.length = s.size := rfl
  rw [h] at this
  rw [List.eq_nil_of_length_eq_zero this]; rfl
theorem nums_nil (s : ByteArray) (h : s.size = 0) : nums s = [] := List.eq_nil_of_length_eq_zero (by rw [nums_len, h])
theorem item_all (s : ByteArray) (h : 0 < s.size) (hp : ∀ c ∈ (nums s).take s.size, plainC c = true) : s = strN (nm (nums s)) := by
  have hne : nums s ≠ [] := by intro e; have := nums_len s; rw [e] at this; simp at this; omega
  rw [List.take_of_length_le (by rw [nums_len]; omega)] at hp
  rw [nm_ne _ hne, enc_plain _ hp, strN_nums]
theorem item_none (s : ByteArray) (h : s.size = 0) : (⟨#[46]⟩ : ByteArray) = strN (nm (nums s)) := by
  rw [nums_nil s h]; rfl
theorem ret_str {a b : ByteArray} (h : a = b) : Ending.returned (.string a) = .returned (.string b) := by rw [h]

/-- The bytes of the key from k on, the first j of them. -/
def mid (s : ByteArray) (k j : Nat) : List Nat := ((nums s).drop k).take j
theorem mid_succ (s : ByteArray) (k j : Nat) (h : k + j < s.size) : mid s k (j + 1) = mid s k j ++ [s[k + j].toNat] := by
  unfold mid
  rw [List.take_succ_eq_append_getElem (by rw [List.length_drop, nums_len]; omega)]
  simp only [List.getElem_drop]
  rw [nums_at s (k + j) h]
theorem mid_len (s : ByteArray) (k j : Nat) (h : k + j ≤ s.size) : (mid s k j).length = j := by
  unfold mid; rw [List.length_take, List.length_drop, nums_len]; omega

theorem hex_size : (⟨#[48, 49, 50, 51, 52, 53, 54, 55, 56, 57, 97, 98, 99, 100, 101, 102]⟩ : ByteArray).size = 16 := rfl
theorem hex_nat : ∀ n : Fin 16, ((⟨#[48, 49, 50, 51, 52, 53, 54, 55, 56, 57, 97, 98, 99, 100, 101, 102]⟩ : ByteArray)[n.val]'(by rw [hex_size]; exact n.isLt)).toNat = hexd n.val := by decide
theorem hex_at (n : Nat) (i : Int) (e : i = n) (h : n < 16) : ((⟨#[48, 49, 50, 51, 52, 53, 54, 55, 56, 57, 97, 98, 99, 100, 101, 102]⟩ : ByteArray)[i.toNat]'(by rw [hex_size]; omega)).toNat = hexd n := by
  subst e
  exact hex_nat ⟨n, h⟩

theorem cell_three_new (w : World) (a b c : Value) (t : TypeId) : ∀ j u, [a, b, c][j]? = some u → (w.alloc (.cells #[a, b, c] t)).drew.cell? ((⟨w.heap.size, 0, none⟩ : Addr).add j) = some u := by
  intro j u hj
  match j, hj with
  | 0, hj => simp at hj; subst hj; simp [Addr.add]
  | 1, hj => simp at hj; subst hj; simp [Addr.add]
  | 2, hj => simp at hj; subst hj; simp [Addr.add]

theorem cells_nums (l : List Nat) (i : Nat) (h : i < l.length) : (cellsN l)[i]? = some (.int .u8 ((l.map Int.ofNat).getD i 0)) := by
  simp [cellsN, List.getD, List.getElem?_eq_getElem h]
theorem item_end (s : ByteArray) (k : Nat) (hk : k < s.size) (hp : ∀ c ∈ (nums s).take k, plainC c = true) :
    strOfNums (((nums s).take k ++ enc (mid s k (s.size - k))).map Int.ofNat) = strN (nm (nums s)) := by
  have hne : nums s ≠ [] := by intro e; have := nums_len s; rw [e] at this; simp at this; omega
  have hm : mid s k (s.size - k) = (nums s).drop k := by unfold mid; exact List.take_of_length_le (by rw [List.length_drop, nums_len]; omega)
  unfold strN
  rw [hm, nm_ne _ hne]
  conv => rhs; rw [← List.take_append_drop k (nums s), enc_app, enc_plain _ hp]

theorem kept_upon {w W wr : World} {B k cap m r : Nat} {olds ks : List Value} {v : Value} (hB : w.heap.size = B) (hb : Below B w W) (h : Upon W 5 1 (some ⟨B, 0, none⟩) B 0 k cap olds wr v m ks r) : Kept w wr := by
  subst hB
  refine Kept.only (fun p => w.heap.size ≤ p.block) (fun _ h => h) (World.keptBut_trans (hb.frame _) (World.keptBut_mono ?_ h.kept)) (Nat.le_trans hb.size h.kept.size)
  rintro p ⟨j, _, rfl⟩
  exact Nat.le_refl _

set_option maxHeartbeats 1000000 in
theorem item_walk (s : ByteArray) (hs : s.size ≤ 1048576) (w : World) :
    Calls Try.prog 6 #[.string s] w fun e w' => e = .returned (.string (strN (nm (nums s)))) ∧ Kept w w' := by
  obtain ⟨i0, hi, hz0, hz1, hz2⟩ := info_parts Try.info5
  go_enter Try.func6, Try.ntmps6
  go_wp2
  go_loop [4] (fun i => ∃ k : Nat, k ≤ s.size ∧ i = .int .i64 k ∧ Hid (∀ c ∈ (nums s).take k, plainC c = true)) (fun i => s.size - (intOf i).toNat)
  case atStart => exact ⟨0, Nat.zero_le _, rfl, hid_mk (by simp)⟩
  case round =>
    obtain ⟨k, hk, rfl, hpl⟩ := hrel
    by_cases hlt : k < s.size
    · have hb : s[k].toNat < 256 := s[k].toNat_lt
      cases hp : plainC s[k].toNat
      · have hk1 : ((k : Int) == (s.size : Int)) = false := by simp; omega
        have hk2 : s.toList.isEmpty = false := empty_no s (by omega)
        have kc := fun (wx : World) (t : ByteArray) => Lib.run_convert_string_bytes (P := Try.prog) wx 9 30 5 t Try.underlying9 Try.underlying30 Try.underlying5
        obtain ⟨hc, hrow, hbel, hsz, hge, hmx⟩ := two_rows w s k hk hs
        have hB2 : (Lib.bytesWorld w 5 (s.extract 0 k)).heap.size = w.heap.size + 1 := Lib.bytesWorld_size w 5 _
        have HC := hid_mk hc; have HR := hid_mk hrow; have HB := hid_mk hbel; have HZ := hid_mk hsz; have HB2 := hid_mk hB2
        clear hc hrow hbel hsz hB2
        go_wp2_with (go_at_call 10; refine (clos_any _ hb _).mono ?_; rintro e w' ⟨rfl, h'⟩; have h'' := h'.symm; clear h'; subst h'')
        rw [HB2.out]
        generalize Lib.bytesWorld (Lib.bytesWorld w 5 (s.extract 0 k)) 5 (s.extract k s.size) = W at *
        generalize grownCap w k 0 5 = cap at *
        generalize grownCap (Lib.bytesWorld w 5 (s.extract 0 k)) (s.size - k) 0 5 = cap2 at *
        obtain ⟨B, hB⟩ : ∃ B, w.heap.size = B := ⟨_, rfl⟩
        rw [hB] at HC HR HB HZ ⊢
        clear kc
        go_loopw [5, 39] (fun v i wr => ∃ j r : Nat, j ≤ s.size - k ∧ i = .int .i64 j ∧ Upon W 5 1 (some ⟨B, 0, none⟩) B 0 k cap (cellsN ((nums s).take k)) wr v (enc (mid s k j)).length (cellsN (enc (mid s k j))) r) (fun _ i _ => (s.size - k) - (intOf i).toNat)
        case atStart => exact ⟨0, 0, by omega, rfl, by exact Upon.start HC.out⟩
        case round =>
          obtain ⟨j, r, hj, rfl, hup⟩ := hrel
          by_cases hjl : j < s.size - k
          · have hkj : k + j < s.size := by omega
            have hcell : wr.cell? ⟨B + 1, j, none⟩ = some (.int .u8 (s[k + j].toNat : Int)) := (hup.old (by rw [HZ.out]; omega) (by intro _ _; omega)).trans (HR.out j hkj)
            have HM : Hid (enc (mid s k (j + 1)) = enc (mid s k j) ++ tok s[k + j].toNat) := by rw [mid_succ s k j hkj, enc_snoc]; exact rfl
            have hlen : (enc (mid s k j)).length ≤ 3 * j := by have := enc_le (mid s k j); rw [mid_len s k j (by omega)] at this; exact this
            have hx : s[k + j].toNat < 256 := s[k + j].toNat_lt
            generalize s[k + j].toNat = x at *
            cases hp2 : plainC x
            · have HT : Hid (tok x = [46, hexd (x / 16), hexd (x % 16)]) := by unfold tok; rw [hp2]; exact rfl
              go_wp2_with (first
                | (go_at_call 10; refine (clos_any _ hx _).mono ?_; rintro e w' ⟨rfl, h'⟩; have h'' := h'.symm; clear h'; subst h''))
              have q1 : 0 ≤ (x : Int) / 16 := by omega
              have q2 : (x : Int) / 16 < 16 := by omega
              have q3 : bits .and .u8 (x : Int) 15 = (x : Int) % 16 := u8_and15 (x : Int) (by omega) (by omega)
              have q4 : 0 ≤ (x : Int) % 16 := by omega
              have q5 : (x : Int) % 16 < 16 := by omega
              have e1 := hex_at (x / 16) ((x : Int) / 16) (by omega) (by omega)
              have e2 := hex_at (x % 16) ((x : Int) % 16) (by omega) (by omega)
              go_region_law (refine step_append_upon rfl (.tmp 50) (.tmp 57) 30 30 rfl HC.out i0 (.int .u8 0) 1 Try.underlying30 hi hz0 hz1 hz2 rfl (by simp [Act.eval]) ((hup.alloc HC.out _).drew HC.out) (.slice (some ⟨wr.heap.size, 0, none⟩) 3 3) 3 [.int .u8 46, .int .u8 (hexd (x / 16) : Nat), .int .u8 (hexd (x % 16) : Nat)] (by simp [Act.eval]) (Src.ofSlice _ Try.underlying30 _ 3 3 _ rfl (cell_three_new _ _ _ _ _) (by simp [Value.oneCell'])) (by unfold maxLen; omega) (by omega) ?_; intro v1 w1 hup1)
              all_goals
                clear hup hcell e1 e2 q1 q2 q3 q4 q5
                go_wp2
                go_roundw
                case rel => exact ⟨j + 1, _, by omega, by go_num, by rw [HM.out, HT.out, List.length_append, cellsN_app]; exact hup1⟩
                case measure => simp [intOf]; omega
            · have HT : Hid (tok x = [x]) := by unfold tok; rw [hp2]; exact rfl
              go_wp2_with (first
                | (go_at_call 10; refine (clos_any _ hx _).mono ?_; rintro e w' ⟨rfl, h'⟩; have h'' := h'.symm; clear h'; subst h'')
                | (at_builtin; refine wpList_append_upon _ rfl (.tmp 46) (.tmp 48) 30 30 rfl HC.out i0 (.int .u8 0) 1 Try.underlying30 hi hz0 hz1 hz2 rfl rfl (hup.alloc HC.out _) (.slice (some ⟨wr.heap.size, 0, none⟩) 1 1) 1 [.int .u8 (x : Int)] rfl (Src.ofSlice _ Try.underlying30 _ 1 1 _ rfl (cell_one_new _ _ _) (by simp [Value.oneCell'])) (by unfold maxLen; omega) (by omega) ?_; intro v1 w1 hup1))
              clear hup hcell
              go_roundw
              case rel => exact ⟨j + 1, _, by omega, by go_num, by rw [HM.out, HT.out, List.length_append, cellsN_app]; exact hup1⟩
              case measure => simp [intOf]; omega
          · have hje : j = s.size - k := by omega
            subst hje
            have hl0 : 0 < (enc (mid s k (s.size - k))).length := by have := enc_ge (mid s k (s.size - k)); rw [mid_len s k _ (by omega)] at this; omega
            obtain ⟨g, o', cap', hv, -, -, hcells⟩ := hup.value HC.out hmx (Or.inr hl0)
            have hlen : (((nums s).take k ++ enc (mid s k (s.size - k))).map Int.ofNat).length = k + (enc (mid s k (s.size - k))).length := by
              rw [List.length_map, List.length_append, List.length_take, nums_len]; omega
            have kb := run_convert_bytes_arg (P := Try.prog) wr 30 5 Try.underlying30 Try.underlying5 g o' _ cap' _ hlen (fun i hi' => by
              rw [hcells i (by omega), ← cellsN_app]
              exact cells_nums _ i (by rw [List.length_map] at hlen; omega)) 9 Try.underlying9
            have HS : Hid (strOfNums (((nums s).take k ++ enc (mid s k (s.size - k))).map Int.ofNat) = strN (nm (nums s))) := hid_mk (item_end s k (by omega) hpl.out)
            have hkept : Kept w wr := kept_upon hB HB.out hup
            clear hup hcells hlen
            rw [HS.out] at kb
            subst hv
            go_wp2
            go_ret
            exact ⟨rfl, hkept⟩
      · go_wp2_with (go_at_call 10; refine (clos_any _ hb _).mono ?_; rintro e w' ⟨rfl, rfl⟩)
        go_round
        case rel => exact ⟨k + 1, by omega, by go_num, hid_mk (by rw [nums_take s k hlt]; intro c hc; rcases List.mem_append.1 hc with h | h; exact hpl.out c h; simp at h; rw [h]; exact hp)⟩
        case measure => simp [intOf]; omega
    · have hke : k = s.size := by omega
      subst hke
      by_cases h0 : s.size = 0
      · have hk2 := empty_yes s h0
        clear hlt
        go_wp2
        go_ret
        exact ⟨ret_str (item_none s h0), Kept.refl _⟩
      · have hk2 := empty_no s (by omega)
        go_wp2
        go_ret
        exact ⟨ret_str (item_all s (by omega) hpl.out), Kept.refl _⟩
end Go.Proofs.Qxb6630003a
