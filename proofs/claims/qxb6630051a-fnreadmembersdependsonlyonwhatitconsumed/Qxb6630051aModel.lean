import Derived.Test.Qxb6630051aPos
namespace Go.Proofs.Qxb6630051a
open Go.RowKit

theorem uvm_some {l : List Nat} {p : Nat} {B off cap : Nat} {w : World} (hr : Row w B off l) (hlen : l.length ≤ 2097152) (hp : p ≤ l.length) {v n : Nat} (hu : Hid (uv (l.drop p) = some (v, n))) (x : Int) (hx : x = p) (q : Nat) (hq : Hid (q = p + n)) :
    Calls Try.prog 11 #[.slice (some ⟨B, off, none⟩) l.length cap, .int .i64 x] w fun e w' => e = .returned (.tuple #[.int .u64 (v : Int), .int .i64 (q : Int), .bool true]) ∧ w' = w := by
  subst hx
  refine (uvm_walk l p B off cap w hr hlen hp).mono ?_
  rintro e w' ⟨rfl, rfl⟩
  rw [hu.out, hq.out]
  exact ⟨by simp [uvmV], rfl⟩
theorem uvm_none {l : List Nat} {p : Nat} {B off cap : Nat} {w : World} (hr : Row w B off l) (hlen : l.length ≤ 2097152) (hp : p ≤ l.length) (hu : Hid (uv (l.drop p) = none)) (x : Int) (hx : x = p) :
    Calls Try.prog 11 #[.slice (some ⟨B, off, none⟩) l.length cap, .int .i64 x] w fun e w' => e = .returned (.tuple #[.int .u64 0, .int .i64 0, .bool false]) ∧ w' = w := by
  subst hx
  refine (uvm_walk l p B off cap w hr hlen hp).mono ?_
  rintro e w' ⟨rfl, rfl⟩
  rw [hu.out]
  exact ⟨rfl, rfl⟩

theorem Try.info37 : (Try.prog.info? 37).map (fun i => (i.zero, i.size, i.bytes)) = some (some (.agg #[.int .u64 0, .string ⟨#[]⟩, .bool false]), 3, 32) := by kernel_rfl
theorem cell_three (w : World) (a b c : Value) (t : TypeId) : ∀ j u, [a, b, c][j]? = some u → (w.alloc (.cells #[a, b, c] t)).cell? ((⟨w.heap.size, 0, none⟩ : Addr).add j) = some u := by
  intro j u hj
  match j, hj with
  | 0, hj => simp at hj; subst hj; simp [Addr.add]
  | 1, hj => simp at hj; subst hj; simp [Addr.add]
  | 2, hj => simp at hj; subst hj; simp [Addr.add]
theorem own_shape {w : World} {base e size n : Nat} {v : Value} {xs : List Value} (h : w.ownsRow base e size v n xs) : ∃ a c, v = .slice a n c := by
  rcases h.2 with ⟨rfl, rfl⟩ | ⟨g, cap, _, rfl, _⟩
  · exact ⟨_, _, rfl⟩
  · exact ⟨_, _, rfl⟩

theorem bool_one (y : Nat) : ((y : Int) == 1) = (y == 1) := by rw [Bool.eq_iff_iff]; simp; omega
/-- What 'readMembersModel' answers. -/
def ModelEnds (l : List Nat) (w : World) (e : Ending) (w' : World) : Prop :=
  Below w.heap.size w w' ∧ ((∃ ms k v, rm l = some (ms, k) ∧ e = .returned (.tuple #[v, .int .i64 (k : Nat), .bool true]) ∧ w'.ownsRow w.heap.size 37 3 v ms.length (mcells ms)) ∨
    (rm l = none ∧ e = .returned (.tuple #[.slice none 0 0, .int .i64 0, .bool false])))
theorem ends_no {l : List Nat} {w w' : World} (h : rm l = none) (hb : Below w.heap.size w w') : ModelEnds l w (.returned (.tuple #[.slice none 0 0, .int .i64 0, .bool false])) w' := ⟨hb, .inr ⟨h, rfl⟩⟩

set_option maxRecDepth 100000 in
set_option maxHeartbeats 1000000 in
theorem model_nil (w : World) : Calls Try.prog 6 #[.slice none 0 0] w fun e w' => e = .returned (.tuple #[.slice none 0 0, .int .i64 0, .bool false]) ∧ w' = w := by
  go_enter Try.func6, Try.ntmps6
  go_wp2_with (go_at_call 11; refine (uvm_nil _).mono ?_; rintro e w' ⟨rfl, rfl⟩)
  go_ret3
  exact ⟨rfl, rfl⟩

set_option maxRecDepth 100000 in
set_option maxHeartbeats 2000000 in
theorem model_walk (l : List Nat) (B off cap : Nat) (w : World) (hr : Row w B off l) (hlen : l.length ≤ 1048576) (hcap : l.length ≤ cap) (hB : B < w.heap.size) :
    Calls Try.prog 6 #[.slice (some ⟨B, off, none⟩) l.length cap] w (ModelEnds l w) := by
  obtain ⟨i0, hi, hz0, hz1, hz2⟩ := info_parts Try.info37
  cases hu : uv l with
  | none =>
    have HU : Hid (uv (l.drop 0) = none) := by rw [List.drop_zero]; exact hu
    have HN := hid_mk (rm_no hu)
    clear hu
    go_enter Try.func6, Try.ntmps6
    go_wp2_with fail
    refine (uvm_none hr (by omega) (Nat.zero_le _) HU _ rfl).mono ?_
    rintro e w' ⟨rfl, h'⟩; have h'' := h'.symm; clear h'; subst h''
    go_wp2
    go_ret3
    exact ends_no HN.out (Below.refl _ _)
  | some x =>
    obtain ⟨n, s⟩ := x
    have HU : Hid (uv (l.drop 0) = some (n, s)) := by rw [List.drop_zero]; exact hu
    have HS := hid_mk (St.start hu)
    have hbd := (uv_bd hu).2.2.2
    clear hu
    go_enter Try.func6, Try.ntmps6
    go_wp2_with fail
    refine (uvm_some hr (by omega) (Nat.zero_le _) HU _ rfl s (hid_mk (show s = 0 + s by omega))).mono ?_
    rintro e w' ⟨rfl, h'⟩; have h'' := h'.symm; clear h'; subst h''
    go_wp2
    go_loopw [6, 8, 9] (fun vp v pr wr => ∃ (i : Nat) (acc : List (Nat × List Nat × Bool)) (prev p : Nat), Hid (St l n i acc prev p) ∧ vp = .int .i64 (p : Int) ∧ pr = .int .u64 (prev : Int) ∧ wr.ownsRow w.heap.size 37 3 v i (mcells acc) ∧ Below w.heap.size w wr) (fun vp _ _ _ => l.length - (intOf vp).toNat)
    case atStart => exact ⟨0, [], 0, s, HS, rfl, rfl, World.ownsRow_nil _ _ _ _, Below.refl _ _⟩
    case round =>
      obtain ⟨i, acc, prev, p, hst, rfl, rfl, hown, hbel⟩ := hrel
      have hin := hst.out.2.1
      have hpl := hst.out.2.2.1
      have h3i := hst.out.2.2.2.1
      have hrow := hr.below hbel hB
      have hsz := hbel.size
      obtain ⟨va, vc, hv⟩ := own_shape hown
      subst hv
      by_cases hlt : i < n
      · cases hu1 : uv (l.drop p) with
        | none =>
          have HU1 := hid_mk hu1
          have HN := hid_mk (pos_no1 hst.out hlt hu1)
          clear hu1
          go_wp2_with fail
          refine (uvm_none hrow (by omega) hpl HU1 _ rfl).mono ?_
          rintro e w' ⟨rfl, h'⟩; have h'' := h'.symm; clear h'; subst h''
          go_wp2
          go_ret3
          exact ends_no HN.out hbel
        | some x =>
          obtain ⟨id, s1⟩ := x
          have HU1 := hid_mk hu1
          obtain ⟨q, HQ⟩ : ∃ q, Hid (q = p + s1) := ⟨_, rfl⟩
          have hub := uv_bd hu1
          rw [List.length_drop] at hub
          have hq1 : p < q := by have := HQ.out; omega
          have hq2 : q ≤ l.length := by have := HQ.out; omega
          have hid4 := hub.2.2.2
          clear hub
          by_cases hle : id ≤ prev
          · have HN := hid_mk (pos_no2 hst.out hlt hu1 hle)
            clear hu1
            go_wp2_with fail
            refine (uvm_some hrow (by omega) hpl HU1 _ rfl q HQ).mono ?_
            rintro e w' ⟨rfl, h'⟩; have h'' := h'.symm; clear h'; subst h''
            go_wp2
            go_ret3
            exact ends_no HN.out hbel
          · by_cases hql : q < l.length
            · have hcq := hrow.2 q hql
              have hbq := hrow.1 q
              obtain ⟨y, hy⟩ : ∃ y, l.getD q 0 = y := ⟨_, rfl⟩
              rw [hy] at hcq hbq
              have HY := hid_mk hy
              clear hy
              by_cases hy1 : 1 < y
              · have HN := hid_mk (pos_no3 hst.out hlt hu1 (.inr (by rw [← HQ.out, HY.out]; exact hy1)))
                clear hu1
                go_wp2_with fail
                refine (uvm_some hrow (by omega) hpl HU1 _ rfl q HQ).mono ?_
                rintro e w' ⟨rfl, h'⟩; have h'' := h'.symm; clear h'; subst h''
                go_wp2
                go_ret3
                exact ends_no HN.out hbel
              · cases hu2 : uv (l.drop (q + 1)) with
                | none =>
                  have HU2 := hid_mk hu2
                  have HN := hid_mk (pos_no4 hst.out hlt hu1 (by rw [← HQ.out]; exact hu2))
                  clear hu1 hu2
                  go_wp2_with fail
                  refine (uvm_some hrow (by omega) hpl HU1 _ rfl q HQ).mono ?_
                  rintro e w' ⟨rfl, h'⟩; have h'' := h'.symm; clear h'; subst h''
                  go_wp2_with fail
                  refine (uvm_none hrow (by omega) (by omega) HU2 _ (by omega)).mono ?_
                  rintro e w' ⟨rfl, h'⟩; have h'' := h'.symm; clear h'; subst h''
                  go_wp2
                  go_ret3
                  exact ends_no HN.out hbel
                | some x =>
                  obtain ⟨m, s2⟩ := x
                  have HU2 := hid_mk hu2
                  obtain ⟨q2, HQ2⟩ : ∃ q2, Hid (q2 = q + 1 + s2) := ⟨_, rfl⟩
                  have hub := uv_bd hu2
                  rw [List.length_drop] at hub
                  have hq3 : q + 1 < q2 := by have := HQ2.out; omega
                  have hq4 : q2 ≤ l.length := by have := HQ2.out; omega
                  have hm4 := hub.2.2.2
                  clear hub
                  by_cases hml : l.length - q2 < m
                  · have HN := hid_mk (pos_no5 hst.out hlt hu1 (by rw [← HQ.out]; exact hu2) (by rw [← HQ.out, ← HQ2.out]; exact hml))
                    clear hu1 hu2
                    go_wp2_with fail
                    refine (uvm_some hrow (by omega) hpl HU1 _ rfl q HQ).mono ?_
                    rintro e w' ⟨rfl, h'⟩; have h'' := h'.symm; clear h'; subst h''
                    go_wp2_with fail
                    refine (uvm_some hrow (by omega) (by omega) HU2 _ (by omega) q2 HQ2).mono ?_
                    rintro e w' ⟨rfl, h'⟩; have h'' := h'.symm; clear h'; subst h''
                    go_wp2
                    go_ret3
                    exact ends_no HN.out hbel
                  · have hst2 := pos_yes hst.out hlt hu1 hle (by rw [← HQ.out]; exact hql) (by rw [← HQ.out, HY.out]; exact hy1) (by rw [← HQ.out]; exact hu2) (by rw [← HQ.out, ← HQ2.out]; exact hml)
                    rw [← HQ.out, ← HQ2.out, HY.out] at hst2
                    have HST2 := hid_mk hst2
                    obtain ⟨off', hsl, hcv⟩ := sub_str wr l B off cap hrow hcap q2 m (by omega) (q2 : Int) ((q2 : Int) + m) rfl rfl
                    have hmc := mcells_snoc acc (id, (l.drop q2).take m, y == 1)
                    have HMC := hid_mk hmc
                    clear hu1 hu2 hst2 hmc
                    go_wp2_with fail
                    refine (uvm_some hrow (by omega) hpl HU1 _ rfl q HQ).mono ?_
                    rintro e w' ⟨rfl, h'⟩; have h'' := h'.symm; clear h'; subst h''
                    go_wp2_with fail
                    refine (uvm_some hrow (by omega) (by omega) HU2 _ (by omega) q2 HQ2).mono ?_
                    rintro e w' ⟨rfl, h'⟩; have h'' := h'.symm; clear h'; subst h''
                    go_wp2_with (at_builtin; refine wpList_append_own _ rfl (.tmp 84) (.tmp 93) 24 rfl w.heap.size 37 i0 _ 3 32 Try.underlying24 hi hz0 hz1 hz2 rfl (by decide) _ _ _ rfl (hown.alloc _) ⟨wr.heap.size, 0, none⟩ 1 1 [.int .u64 (id : Int), .string (strN ((l.drop q2).take m)), .bool ((y : Int) == 1)] rfl rfl (cell_three _ _ _ _ _) (by simp [Value.oneCell']) (by unfold maxLen; omega) (by omega) (by simp; omega) ?_; intro v1 w1 hown1 hgrow1 _)
                    have R1 : Below w.heap.size w w1 := (hbel.alloc hsz _).grown hgrow1 (by simp; omega) (fun g hg => (hown.lt g hg).1)
                    clear hgrow1 hown hbel hsl hcv
                    rw [bool_one y] at hown1
                    go_roundw
                    case rel => exact ⟨i + 1, _, _, q2 + m, HST2, by go_num, rfl, by rw [HMC.out]; exact hown1, R1⟩
                    case measure => simp [intOf]; omega
            · have HN := hid_mk (pos_no3 hst.out hlt hu1 (.inl (by rw [← HQ.out]; omega)))
              clear hu1
              go_wp2_with fail
              refine (uvm_some hrow (by omega) hpl HU1 _ rfl q HQ).mono ?_
              rintro e w' ⟨rfl, h'⟩; have h'' := h'.symm; clear h'; subst h''
              go_wp2
              go_ret3
              exact ends_no HN.out hbel
      · have hie : i = n := by omega
        subst hie
        have HD := hid_mk hst.out.done
        have hal := hst.out.1
        go_wp2
        go_ret3
        exact ⟨hbel, .inl ⟨_, _, _, HD.out, rfl, by rw [hal]; exact hown⟩⟩
end Go.Proofs.Qxb6630051a
