import Derived.Test.Qxb6630051aSub
namespace Go.Proofs.Qxb6630051a
open Go.RowKit

/-- What 'ReadMembers' answers. -/
def ReadEnds (l : List Nat) (B cap : Nat) (w : World) (e : Ending) (w' : World) : Prop :=
  Below w.heap.size w w' ∧ ((∃ ms k v o, rm l = some (ms, k) ∧ e = .returned (.tuple #[v, .slice (some ⟨B, o, none⟩) (l.length - k) (cap - k), .nilIface]) ∧ Row w' B o (l.drop k) ∧
      w'.ownsRow w.heap.size 37 3 v ms.length (mcells ms) ∧ (ms = [] → v = .slice none 0 0) ∧ (ms ≠ [] → ∃ g c, v = .slice (some ⟨g, 0, none⟩) ms.length c)) ∨
    (rm l = none ∧ ∃ a, e = .returned (.tuple #[.slice none 0 0, .slice none 0 0, .iface 42 (.pointer (some a))])))
theorem read_no {l : List Nat} {B cap : Nat} {w w' : World} {a : Addr} (h : rm l = none) (hb : Below w.heap.size w w') : ReadEnds l B cap w (.returned (.tuple #[.slice none 0 0, .slice none 0 0, .iface 42 (.pointer (some a))])) w' := ⟨hb, .inr ⟨h, a, rfl⟩⟩

set_option maxRecDepth 100000 in
set_option maxHeartbeats 1000000 in
theorem read_nil (w : World) : Calls Try.prog 7 #[.slice none 0 0] w fun e w' => (∃ a, e = .returned (.tuple #[.slice none 0 0, .slice none 0 0, .iface 42 (.pointer (some a))])) ∧ Below w.heap.size w w' := by
  go_enter Try.func7, Try.ntmps7
  go_wp2_with (first
    | (go_at_call 12; refine (uv_nil _).mono ?_; rintro e w' ⟨rfl, h'⟩; have h'' := h'.symm; clear h'; subst h'')
    | (go_at_call 13; refine (err_any _ _).mono ?_; rintro e w' ⟨a, rfl, hb⟩))
  go_ret3
  exact ⟨⟨_, rfl⟩, hb⟩

/-- The state of the round. -/
def RS (l : List Nat) (B n g : Nat) (Z : List Value) (w wr : World) (i : Nat) (acc : List (Nat × List Nat × Bool)) (prev p o : Nat) : Prop :=
  St l n i acc prev p ∧ Row wr B o (l.drop p) ∧ wr.ownsRow w.heap.size 37 3 (.slice (some ⟨g, 0, none⟩) n n) n (mcells acc ++ Z.drop (3 * i)) ∧ Below w.heap.size w wr ∧ B < w.heap.size ∧ Z.length = n * 3

theorem mcells_at (ms : List (Nat × List Nat × Bool)) (j : Nat) (h : j < ms.length) : (mcells ms)[j * 3]? = some (.int .u64 (ms[j].1 : Int)) := by
  induction ms generalizing j with
  | nil => simp at h
  | cons m ms ih =>
    cases j with
    | zero => simp [mcells, mcell]
    | succ j =>
      have h' : j < ms.length := by simpa using h
      have := ih j h'
      rw [show (j + 1) * 3 = j * 3 + 3 by omega]
      simpa [mcells, mcell] using this
section
variable {l : List Nat} {B n g : Nat} {Z : List Value} {w wr : World} {i : Nat} {acc : List (Nat × List Nat × Bool)} {prev p o : Nat}
theorem rs_cell (h : RS l B n g Z w wr i acc prev p o) (j : Nat) (hj : j < n * 3) : ∃ c, wr.cell? ⟨g, j, none⟩ = some c := by
  have h1 := h.2.2.1
  rw [h1.cellAt j hj]
  have := h1.1
  exact ⟨_, List.getElem?_eq_getElem (by omega)⟩
theorem rs_free (h : RS l B n g Z w wr i acc prev p o) (j : Nat) : wr.frozen? ⟨g, j, none⟩ = false := h.2.2.1.frozenAt j
theorem rs_prev (h : RS l B n g Z w wr i acc prev p o) (hi : 0 < i) : wr.cell? ⟨g, (i - 1) * 3, none⟩ = some (.int .u64 (prev : Int)) := by
  have hal := h.1.1
  have hin := h.1.2.1
  rw [h.2.2.1.cellAt _ (by omega), List.getElem?_append_left (by rw [mcells_len]; omega), mcells_at acc (i - 1) (by omega)]
  have hp := h.1.2.2.2.2.1
  rw [List.getLast?_eq_getElem?, hal, List.getElem?_eq_getElem (by omega)] at hp
  rw [hp]; rfl
theorem set3 (xs ys : List Value) (a b c : Value) (k : Nat) (h : xs.length = k) (h3 : 3 ≤ ys.length) : (((xs ++ ys).set k a).set (k + 1) b).set (k + 2) c = xs ++ [a, b, c] ++ ys.drop 3 := by
  subst h
  match ys, h3 with
  | y0 :: y1 :: y2 :: r, _ => simp
theorem rs_next (h : RS l B n g Z w wr i acc prev p o) (hi : i < n) (m : Nat × List Nat × Bool) (p' o' : Nat) (hs : St l n (i + 1) (acc ++ [m]) m.1 p') (hrow : Row wr B o' (l.drop p')) :
    RS l B n g Z w (((wr.setCell ⟨g, i * 3, none⟩ (.int .u64 (m.1 : Int))).setCell ⟨g, i * 3 + 1, none⟩ (.string (strN m.2.1))).setCell ⟨g, i * 3 + 2, none⟩ (.bool m.2.2)) (i + 1) (acc ++ [m]) m.1 p' o' := by
  obtain ⟨h1, h2, h3, h4, h5, h6⟩ := h
  have hg := (h3.lt g rfl).1
  have hb : Below w.heap.size wr (((wr.setCell ⟨g, i * 3, none⟩ (.int .u64 (m.1 : Int))).setCell ⟨g, i * 3 + 1, none⟩ (.string (strN m.2.1))).setCell ⟨g, i * 3 + 2, none⟩ (.bool m.2.2)) :=
    (((Below.refl _ _).setCell (p := ⟨g, i * 3, none⟩) hg _).setCell (p := ⟨g, i * 3 + 1, none⟩) hg _).setCell (p := ⟨g, i * 3 + 2, none⟩) hg _
  refine ⟨hs, hrow.below hb h5, ?_, h4.trans hb, h5, h6⟩
  have k1 := (h3.stored (i * 3) (.int .u64 (m.1 : Int))).1
  have k2 := (k1.stored (i * 3 + 1) (.string (strN m.2.1))).1
  have k3 := (k2.stored (i * 3 + 2) (.bool m.2.2)).1
  have hal := h1.1
  rw [set3 (mcells acc) _ _ _ _ (i * 3) (by rw [mcells_len, hal]) (by rw [List.length_drop]; omega), List.drop_drop] at k3
  rw [mcells_snoc, show 3 * (i + 1) = 3 * i + 3 by omega]
  exact k3
end

theorem read_end {l : List Nat} {B n g cap : Nat} {Z : List Value} {w wr : World} {acc : List (Nat × List Nat × Bool)} {prev p o : Nat} (hn : ¬ n = 0) (h : RS l B n g Z w wr n acc prev p o) (hd : rm l = some (acc, p)) :
    ReadEnds l B cap w (.returned (.tuple #[.slice (some ⟨g, 0, none⟩) n n, .slice (some ⟨B, o, none⟩) (l.length - p) (cap - p), .nilIface])) wr := by
  obtain ⟨h1, h2, h3, h4, h5, h6⟩ := h
  have hal := h1.1
  rw [List.drop_of_length_le (by omega), List.append_nil] at h3
  refine ⟨h4, .inl ⟨acc, p, _, o, hd, rfl, h2, by rw [hal]; exact h3, fun e => ?_, fun _ => ⟨g, n, by rw [hal]⟩⟩⟩
  rw [e] at hal
  exact absurd hal.symm hn

set_option maxRecDepth 100000 in
set_option maxHeartbeats 4000000 in
theorem read_walk (l : List Nat) (B off cap : Nat) (w : World) (hr : Row w B off l) (hlen : l.length ≤ 1048576) (hcap : l.length ≤ cap) (hB : B < w.heap.size) :
    Calls Try.prog 7 #[.slice (some ⟨B, off, none⟩) l.length cap] w (ReadEnds l B cap w) := by
  obtain ⟨i0, hi, hz0, hz1, hz2⟩ := info_parts Try.info37
  cases hu : uv l with
  | none =>
    have HU := hid_mk hu
    have HN := hid_mk (rm_no hu)
    clear hu
    go_enter Try.func7, Try.ntmps7
    go_wp2_with fail
    refine (uv_none hr rfl (by omega) HU).mono ?_
    rintro e w' ⟨⟨y, hy, rfl⟩, h'⟩; have h'' := h'.symm; clear h'; subst h''
    go_wp2_with (go_at_call 13; refine (err_any _ _).mono ?_; rintro e w' ⟨a, rfl, hb⟩)
    go_ret3
    exact read_no HN.out hb
  | some x =>
    obtain ⟨n, s⟩ := x
    have HU := hid_mk hu
    have hub := uv_bd hu
    have hs1 : 1 ≤ s := hub.1
    have hsl : s ≤ l.length := hub.2.2.1
    have hn4 := hub.2.2.2
    clear hub
    by_cases hmany : (l.length - s) / 3 < n
    · have HN := hid_mk (rm_many hu hmany)
      clear hu
      go_enter Try.func7, Try.ntmps7
      go_wp2_with fail
      refine (uv_some hr rfl (by omega) HU).mono ?_
      rintro e w' ⟨rfl, h'⟩; have h'' := h'.symm; clear h'; subst h''
      go_wp2_with (go_at_call 13; refine (err_any _ _).mono ?_; rintro e w' ⟨a, rfl, hb⟩)
      go_ret3
      exact read_no HN.out hb
    · have HS := hid_mk (St.start hu)
      obtain ⟨o1, hsl1, hro1⟩ := slice_from .i64 l B off l.length cap s (l.length - s) (cap - s) (s : Int) rfl rfl hcap hsl rfl rfl
      have hrow1 := hro1 w hr
      have HR1 := hid_mk hrow1
      clear hro1 hrow1
      by_cases hn0 : n = 0
      · subst hn0
        have HD := hid_mk HS.out.done
        clear hu
        go_enter Try.func7, Try.ntmps7
        go_wp2_with fail
        refine (uv_some hr rfl (by omega) HU).mono ?_
        rintro e w' ⟨rfl, h'⟩; have h'' := h'.symm; clear h'; subst h''
        go_wp2
        go_ret3
        exact ⟨Below.refl _ _, .inl ⟨_, _, _, _, HD.out, rfl, HR1.out, World.ownsRow_nil _ _ _ _, fun _ => rfl, fun h => absurd rfl h⟩⟩
      · have hn0' : ((n : Int) == 0) = false := beq_eq_false_iff_ne.2 (by omega)
        obtain ⟨wm, hmk, hown0, hgr0⟩ := run_make_full (P := Try.prog) w w.heap.size 24 37 i0 _ 3 Try.underlying24 hi hz0 hz1 .u64 .u64 n (by rw [hz2]; omega) (by unfold maxLen; omega) (Nat.le_refl _)
        have hbel0 : Below w.heap.size w wm := (Below.refl _ _).grown hgr0 (Nat.le_refl _) (by intro k h; cases h)
        have hzl : (madeCells (Value.agg #[.int .u64 0, .string ⟨#[]⟩, .bool false]).cells (n * 3)).toList.length = n * 3 := by rw [Array.length_toList, size_madeCells]
        generalize (madeCells (Value.agg #[.int .u64 0, .string ⟨#[]⟩, .bool false]).cells (n * 3)).toList = Z at *
        generalize hg : w.heap.size = g at hmk hown0
        have HG := hid_mk hg
        have HZ := hid_mk hzl
        clear hu hgr0 hg hzl
        go_enter Try.func7, Try.ntmps7
        go_wp2_with fail
        refine (uv_some hr rfl (by omega) HU).mono ?_
        rintro e w' ⟨rfl, h'⟩; have h'' := h'.symm; clear h'; subst h''
        go_wp2
        go_loopw [0, 2, 40] (fun v0 v2 vi wr => ∃ (i : Nat) (acc : List (Nat × List Nat × Bool)) (prev p o : Nat), Hid (RS l B n g Z w wr i acc prev p o) ∧ v0 = .slice (some ⟨B, o, none⟩) (l.length - p) (cap - p) ∧ v2 = .slice (some ⟨g, 0, none⟩) n n ∧ vi = .int .i64 (i : Int)) (fun _ _ vi _ => n - (intOf vi).toNat)
        case atStart => exact ⟨0, [], 0, s, o1, hid_mk ⟨HS.out, HR1.out.below hbel0 hB, by rw [HG.out]; exact hown0, hbel0, hB, HZ.out⟩, rfl, rfl, rfl⟩
        case round =>
          obtain ⟨i, acc, prev, p, o, hrs, rfl, rfl, rfl⟩ := hrel
          clear hmk hown0 hbel0 hsl1
          by_cases hlt : i < n
          · have hpl : p ≤ l.length := hrs.out.1.2.2.1
            have hrow := hrs.out.2.1
            have hbel := hrs.out.2.2.2.1
            cases hu1 : uv (l.drop p) with
            | none =>
              have HU1 := hid_mk hu1
              have HN := hid_mk (pos_no1 hrs.out.1 hlt hu1)
              clear hu1
              go_wp2_with fail
              refine (uv_none hrow (by simp) (by omega) HU1).mono ?_
              rintro e w' ⟨⟨yy, hyy, rfl⟩, h'⟩; have h'' := h'.symm; clear h'; subst h''
              go_wp2_with (go_at_call 13; refine (err_any _ _).mono ?_; rintro e w' ⟨a, rfl, hb⟩)
              go_ret3
              exact read_no HN.out (hbel.trans (hb.mono hbel.size))
            | some x =>
              obtain ⟨id, s1⟩ := x
              have HU1 := hid_mk hu1
              obtain ⟨q, HQ⟩ : ∃ q, Hid (q = p + s1) := ⟨_, rfl⟩
              have hub := uv_bd hu1
              rw [List.length_drop] at hub
              have hs1' : 1 ≤ s1 := hub.1
              have hq1 : p < q := by have := HQ.out; omega
              have hq2 : q ≤ l.length := by have := HQ.out; omega
              have hid4 := hub.2.2.2
              clear hub hu1
              obtain ⟨o2, hsl2, hro2⟩ := slice_from .i64 (l.drop p) B o (l.length - p) (cap - p) s1 (l.length - q) (cap - q) (s1 : Int) rfl (by simp) (by omega) (by have := HQ.out; omega) (by have := HQ.out; omega) (by have := HQ.out; omega)
              rw [List.drop_drop, ← HQ.out] at hro2
              have hrow2 := hro2 wr hrow
              clear hro2
              by_cases hle : id ≤ prev
              · have HN := hid_mk (pos_no2 hrs.out.1 hlt HU1.out hle)
                by_cases hz : id = 0
                · have hid0 : ((id : Int) == 0) = true := beq_iff_eq.2 (by omega)
                  clear hz
                  go_wp2_with fail
                  refine (uv_some hrow (by simp) (by omega) HU1).mono ?_
                  rintro e w' ⟨rfl, h'⟩; have h'' := h'.symm; clear h'; subst h''
                  go_wp2_with (go_at_call 13; refine (err_any _ _).mono ?_; rintro e w' ⟨a, rfl, hb⟩)
                  go_ret3
                  exact read_no HN.out (hbel.trans (hb.mono hbel.size))
                · have hid0 : ((id : Int) == 0) = false := beq_eq_false_iff_ne.2 (by omega)
                  have hi0 : 0 < i := by
                    rcases Nat.eq_zero_or_pos i with h | h
                    · exfalso
                      have h1 := hrs.out.1.2.2.2.2.1
                      have h2 := hrs.out.1.1
                      rw [h] at h2
                      rw [List.eq_nil_of_length_eq_zero h2] at h1
                      simp at h1
                      omega
                    · exact h
                  have hprev := rs_prev hrs.out hi0
                  go_wp2_with fail
                  refine (uv_some hrow (by simp) (by omega) HU1).mono ?_
                  rintro e w' ⟨rfl, h'⟩; have h'' := h'.symm; clear h'; subst h''
                  go_wp2_with (go_at_call 13; refine (err_any _ _).mono ?_; rintro e w' ⟨a, rfl, hb⟩)
                  go_ret3
                  exact read_no HN.out (hbel.trans (hb.mono hbel.size))
              · have hid0 : ((id : Int) == 0) = false := beq_eq_false_iff_ne.2 (by omega)
                by_cases hql : q < l.length
                · have hcq : wr.cell? ⟨B, o2, none⟩ = some (.int .u8 (l.getD q 0 : Nat)) := by
                    have := hrow2.2 0 (by rw [List.length_drop]; omega)
                    rw [drop_getD] at this; exact this
                  have hbq := hrs.out.2.1.1
                  have hbq : l.getD q 0 < 256 := by have := hrow2.1 0; rw [drop_getD] at this; exact this
                  have hql0 : (((l.length - q : Nat) : Int) == 0) = false := beq_eq_false_iff_ne.2 (by omega)
                  obtain ⟨y, hy⟩ : ∃ y, l.getD q 0 = y := ⟨_, rfl⟩
                  rw [hy] at hcq hbq
                  have HY := hid_mk hy
                  clear hy
                  by_cases hy1 : 1 < y
                  · have HN := hid_mk (pos_no3 hrs.out.1 hlt HU1.out (.inr (by rw [← HQ.out, HY.out]; exact hy1)))
                    by_cases hi0 : 0 < i
                    · have hprev := rs_prev hrs.out hi0
                      go_wp2_with fail
                      refine (uv_some hrow (by simp) (by omega) HU1).mono ?_
                      rintro e w' ⟨rfl, h'⟩; have h'' := h'.symm; clear h'; subst h''
                      go_wp2_with (go_at_call 13; refine (err_any _ _).mono ?_; rintro e w' ⟨a, rfl, hb⟩)
                      go_ret3
                      exact read_no HN.out (hbel.trans (hb.mono hbel.size))
                    · skip
                      go_wp2_with fail
                      refine (uv_some hrow (by simp) (by omega) HU1).mono ?_
                      rintro e w' ⟨rfl, h'⟩; have h'' := h'.symm; clear h'; subst h''
                      go_wp2_with (go_at_call 13; refine (err_any _ _).mono ?_; rintro e w' ⟨a, rfl, hb⟩)
                      go_ret3
                      exact read_no HN.out (hbel.trans (hb.mono hbel.size))
                  · obtain ⟨o3, hsl3, hro3⟩ := slice_from .i64 (l.drop q) B o2 (l.length - q) (cap - q) 1 (l.length - (q + 1)) (cap - (q + 1)) 1 rfl (by simp) (by omega) (by omega) (by omega) (by omega)
                    rw [List.drop_drop] at hro3
                    have hrow3 := hro3 wr hrow2
                    clear hro3
                    cases hu2 : uv (l.drop (q + 1)) with
                    | none =>
                      have HU2 := hid_mk hu2
                      have HN := hid_mk (pos_no4 hrs.out.1 hlt HU1.out (by rw [← HQ.out]; exact hu2))
                      clear hu2
                      by_cases hi0 : 0 < i
                      · have hprev := rs_prev hrs.out hi0
                        go_wp2_with fail
                        refine (uv_some hrow (by simp) (by omega) HU1).mono ?_
                        rintro e w' ⟨rfl, h'⟩; have h'' := h'.symm; clear h'; subst h''
                        go_wp2_with fail
                        refine (uv_none hrow3 (by simp) (by omega) HU2).mono ?_
                        rintro e w' ⟨⟨yy, hyy, rfl⟩, h'⟩; have h'' := h'.symm; clear h'; subst h''
                        go_wp2_with (go_at_call 13; refine (err_any _ _).mono ?_; rintro e w' ⟨a, rfl, hb⟩)
                        go_ret3
                        exact read_no HN.out (hbel.trans (hb.mono hbel.size))
                      · skip
                        go_wp2_with fail
                        refine (uv_some hrow (by simp) (by omega) HU1).mono ?_
                        rintro e w' ⟨rfl, h'⟩; have h'' := h'.symm; clear h'; subst h''
                        go_wp2_with fail
                        refine (uv_none hrow3 (by simp) (by omega) HU2).mono ?_
                        rintro e w' ⟨⟨yy, hyy, rfl⟩, h'⟩; have h'' := h'.symm; clear h'; subst h''
                        go_wp2_with (go_at_call 13; refine (err_any _ _).mono ?_; rintro e w' ⟨a, rfl, hb⟩)
                        go_ret3
                        exact read_no HN.out (hbel.trans (hb.mono hbel.size))
                    | some x =>
                      obtain ⟨m, s2⟩ := x
                      have HU2 := hid_mk hu2
                      obtain ⟨q2, HQ2⟩ : ∃ q2, Hid (q2 = q + 1 + s2) := ⟨_, rfl⟩
                      have hub := uv_bd hu2
                      rw [List.length_drop] at hub
                      have hs2' : 1 ≤ s2 := hub.1
                      have hs2l : s2 ≤ l.length - (q + 1) := hub.2.2.1
                      have hq3 : q + 1 < q2 := by have := HQ2.out; omega
                      have hq4 : q2 ≤ l.length := by have := HQ2.out; omega
                      have hm4 := hub.2.2.2
                      clear hub hu2
                      by_cases hml : l.length - q2 < m
                      · have HN := hid_mk (pos_no5 hrs.out.1 hlt HU1.out (by rw [← HQ.out]; exact HU2.out) (by rw [← HQ.out, ← HQ2.out]; exact hml))
                        have hml' : ((l.length - (q + 1) : Nat) : Int) - s2 < m := by have := HQ2.out; omega
                        by_cases hi0 : 0 < i
                        · have hprev := rs_prev hrs.out hi0
                          go_wp2_with fail
                          refine (uv_some hrow (by simp) (by omega) HU1).mono ?_
                          rintro e w' ⟨rfl, h'⟩; have h'' := h'.symm; clear h'; subst h''
                          go_wp2_with fail
                          refine (uv_some hrow3 (by simp) (by omega) HU2).mono ?_
                          rintro e w' ⟨rfl, h'⟩; have h'' := h'.symm; clear h'; subst h''
                          go_wp2_with (go_at_call 13; refine (err_any _ _).mono ?_; rintro e w' ⟨a, rfl, hb⟩)
                          go_ret3
                          exact read_no HN.out (hbel.trans (hb.mono hbel.size))
                        · skip
                          go_wp2_with fail
                          refine (uv_some hrow (by simp) (by omega) HU1).mono ?_
                          rintro e w' ⟨rfl, h'⟩; have h'' := h'.symm; clear h'; subst h''
                          go_wp2_with fail
                          refine (uv_some hrow3 (by simp) (by omega) HU2).mono ?_
                          rintro e w' ⟨rfl, h'⟩; have h'' := h'.symm; clear h'; subst h''
                          go_wp2_with (go_at_call 13; refine (err_any _ _).mono ?_; rintro e w' ⟨a, rfl, hb⟩)
                          go_ret3
                          exact read_no HN.out (hbel.trans (hb.mono hbel.size))
                      · have hml' : ¬ ((l.length - (q + 1) : Nat) : Int) - s2 < m := by have := HQ2.out; omega
                        obtain ⟨o4, hsl4, hro4⟩ := slice_from .i64 (l.drop (q + 1)) B o3 (l.length - (q + 1)) (cap - (q + 1)) s2 (l.length - q2) (cap - q2) (s2 : Int) rfl (by simp) (by omega) (by omega) (by have := HQ2.out; omega) (by have := HQ2.out; omega)
                        rw [List.drop_drop, ← HQ2.out] at hro4
                        have hrow4 := hro4 wr hrow3
                        clear hro4
                        obtain ⟨o5, c5, hsl5, hcv0⟩ := head_str .u64 (l.drop q2) B o4 (l.length - q2) (cap - q2) m (m : Int) rfl (by simp) (by omega) (by omega)
                        have hcv := hcv0 wr hrow4
                        clear hcv0
                        obtain ⟨o6, hsl6, hro6⟩ := slice_from .u64 (l.drop q2) B o4 (l.length - q2) (cap - q2) m (l.length - (q2 + m)) (cap - (q2 + m)) (m : Int) rfl (by simp) (by omega) (by omega) (by omega) (by omega)
                        rw [List.drop_drop] at hro6
                        have hc0 := rs_cell hrs.out (i * 3) (by omega)
                        have hc1 := rs_cell hrs.out (i * 3 + 1) (by omega)
                        have hc2 := rs_cell hrs.out (i * 3 + 2) (by omega)
                        have hf0 := rs_free hrs.out (i * 3)
                        have hf1 := rs_free hrs.out (i * 3 + 1)
                        have hf2 := rs_free hrs.out (i * 3 + 2)
                        obtain ⟨k0, hc0⟩ := hc0
                        obtain ⟨k1, hc1⟩ := hc1
                        obtain ⟨k2, hc2⟩ := hc2
                        have hst2 := pos_yes hrs.out.1 hlt HU1.out hle (by rw [← HQ.out]; exact hql) (by rw [← HQ.out, HY.out]; exact hy1) (by rw [← HQ.out]; exact HU2.out) (by rw [← HQ.out, ← HQ2.out]; exact hml)
                        rw [← HQ.out, ← HQ2.out, HY.out] at hst2
                        have HNX := hid_mk (rs_next hrs.out hlt _ _ o6 hst2 (hro6 wr hrow4))
                        clear hst2 hro6
                        by_cases hi0 : 0 < i
                        · have hprev := rs_prev hrs.out hi0
                          go_wp2_with fail
                          refine (uv_some hrow (by simp) (by omega) HU1).mono ?_
                          rintro e w' ⟨rfl, h'⟩; have h'' := h'.symm; clear h'; subst h''
                          go_wp2_with fail
                          refine (uv_some hrow3 (by simp) (by omega) HU2).mono ?_
                          rintro e w' ⟨rfl, h'⟩; have h'' := h'.symm; clear h'; subst h''
                          go_wp2
                          rw [bool_one y]
                          go_roundw
                          case rel => exact ⟨i + 1, _, _, q2 + m, o6, HNX, rfl, rfl, by go_num⟩
                          case measure => simp [intOf]; omega
                        · skip
                          go_wp2_with fail
                          refine (uv_some hrow (by simp) (by omega) HU1).mono ?_
                          rintro e w' ⟨rfl, h'⟩; have h'' := h'.symm; clear h'; subst h''
                          go_wp2_with fail
                          refine (uv_some hrow3 (by simp) (by omega) HU2).mono ?_
                          rintro e w' ⟨rfl, h'⟩; have h'' := h'.symm; clear h'; subst h''
                          go_wp2
                          rw [bool_one y]
                          go_roundw
                          case rel => exact ⟨i + 1, _, _, q2 + m, o6, HNX, rfl, rfl, by go_num⟩
                          case measure => simp [intOf]; omega
                · have HN := hid_mk (pos_no3 hrs.out.1 hlt HU1.out (.inl (by rw [← HQ.out]; omega)))
                  have hql0 : (((l.length - q : Nat) : Int) == 0) = true := beq_iff_eq.2 (by omega)
                  by_cases hi0 : 0 < i
                  · have hprev := rs_prev hrs.out hi0
                    go_wp2_with fail
                    refine (uv_some hrow (by simp) (by omega) HU1).mono ?_
                    rintro e w' ⟨rfl, h'⟩; have h'' := h'.symm; clear h'; subst h''
                    go_wp2_with (go_at_call 13; refine (err_any _ _).mono ?_; rintro e w' ⟨a, rfl, hb⟩)
                    go_ret3
                    exact read_no HN.out (hbel.trans (hb.mono hbel.size))
                  · skip
                    go_wp2_with fail
                    refine (uv_some hrow (by simp) (by omega) HU1).mono ?_
                    rintro e w' ⟨rfl, h'⟩; have h'' := h'.symm; clear h'; subst h''
                    go_wp2_with (go_at_call 13; refine (err_any _ _).mono ?_; rintro e w' ⟨a, rfl, hb⟩)
                    go_ret3
                    exact read_no HN.out (hbel.trans (hb.mono hbel.size))
          · have hie : i = n := by have := hrs.out.1.2.1; omega
            subst hie
            have HD := hid_mk hrs.out.1.done
            go_wp2
            go_ret3
            exact read_end hn0 hrs.out HD.out
end Go.Proofs.Qxb6630051a
