import Derived.Test.Qxb6630079aLeaves
namespace Go.Proofs.Qxb6630079a
open Go.RowKit

set_option maxHeartbeats 1000000 in
/-- 'zzStrsEqB1' of two slices that read alike. -/
theorem strs_walk (oq : Option (List ByteArray)) (v1 v2 : Value) (hlen : ∀ ss, oq = some ss → ss.length ≤ 1048576) (w : World) (h1 : Q w v1 oq) (h2 : Q w v2 oq) :
    Calls Try.prog 16 #[v1, v2] w fun e w' => e = .returned (.bool true) ∧ ∃ q, w' = w.drewN q := by
  have ke := fun (wx : World) (a : Option Addr) (n c : Nat) => Lib.run_eql_slice_nil (P := Try.prog) wx 26 9 a n c 0 0 Try.underlying26
  rcases h1 with ⟨rfl, rfl⟩ | ⟨ss, a1, cap1, rfl, rfl, h1⟩
  · rcases h2 with ⟨_, rfl⟩ | ⟨_, _, _, h, _⟩
    · go_enter Try.func16, Try.ntmps16
      go_wp2
      go_loop [5] (fun i => i = .int .i64 0) (fun _ => 0)
      case atStart => rfl
      case round =>
        subst hrel
        go_wp2
        go_ret
        exact ⟨rfl, 0, rfl⟩
    · cases h
  · rcases h2 with ⟨h, _⟩ | ⟨ss', a2, cap2, h, rfl, h2⟩
    · cases h
    · obtain rfl := Option.some.inj h
      have hl := hlen ss rfl
      clear h hlen
      go_enter Try.func16, Try.ntmps16
      go_wp2
      go_loopw [5] (fun i wr => ∃ k : Nat, k ≤ ss.length ∧ i = .int .i64 k ∧ (∃ q, Hid (wr = w.drewN q))) (fun i _ => ss.length - (intOf i).toNat)
      case atStart => exact ⟨0, by omega, rfl, 0, hid_mk rfl⟩
      case round =>
        obtain ⟨k, hk, rfl, q, HW⟩ := hrel
        have hw := HW.out
        subst hw
        by_cases hlt : k < ss.length
        · have c1 := h1 k hlt
          have c2 := h2 k hlt
          generalize ss[k] = s at *
          go_wp2
          go_quiet (fail)
          go_wp2
          go_roundw
          case rel => exact ⟨k + 1, by omega, by go_num, _, hid_mk rfl⟩
          case measure => simp [intOf]; omega
        · go_wp2
          go_ret
          exact ⟨rfl, _, rfl⟩

theorem Q.shape {w : World} {v : Value} {oq : Option (List ByteArray)} (h : Q w v oq) : ∃ a n c, v = .slice a n c := by
  rcases h with ⟨_, rfl⟩ | ⟨_, _, _, _, rfl, _⟩
  · exact ⟨_, _, _, rfl⟩
  · exact ⟨_, _, _, rfl⟩
set_option maxHeartbeats 1000000 in
/-- 'ZZnewWorker'. -/
theorem new_walk (nm : ByteArray) (qa : Option Addr) (qn qc : Nat) (st : ByteArray) (ttl : Int) (rg : Bool) (w : World) :
    Calls Try.prog 14 #[.string nm, .slice qa qn qc, .string st, .int .i64 ttl, .bool rg] w fun e w' => e = .returned (.pointer (some ⟨w.heap.size, 0, none⟩)) ∧ ∃ e1 e2 e3 e4, w' = w.alloc (.cells #[.string nm, .slice qa qn qc, .string st, .int .i64 ttl, e1, e2, e3, e4, .bool rg] 48) := by
  go_enter Try.func14, Try.ntmps14
  go_wp2
  go_ret
  exact ⟨rfl, _, _, _, _, rfl⟩

set_option maxHeartbeats 1000000 in
/-- 'zzRecEqInB1' of a record and a worker that read alike. -/
theorem recin_walk (nm st : ByteArray) (ttl : Int) (rg : Bool) (oq : Option (List ByteArray)) (qa qa' : Option Addr) (qn qc qn' qc' : Nat) (hlen : ∀ ss, oq = some ss → ss.length ≤ 1048576) (w : World) (h1 : Q w (.slice qa qn qc) oq) (h2 : Q w (.slice qa' qn' qc') oq) :
    Calls Try.prog 12 #[.agg #[.string nm, .slice qa qn qc, .string st, .int .i64 ttl], .agg #[.string nm, .slice qa' qn' qc', .string st, .int .i64 ttl, .bool rg]] w fun e w' => e = .returned (.bool true) ∧ Below w.heap.size w w' := by
  have H1 := hid_mk h1; have H2 := hid_mk h2
  clear h1 h2
  go_enter Try.func12, Try.ntmps12
  go_wp2_with fail
  refine (strs_walk oq _ _ hlen _ (H1.out.stays (((Below.refl _ _).alloc (Nat.le_refl _) _).alloc (by simp) _)) (H2.out.stays (((Below.refl _ _).alloc (Nat.le_refl _) _).alloc (by simp) _))).mono ?_
  rintro e w' ⟨rfl, q, rfl⟩
  go_wp2
  go_ret
  exact ⟨rfl, below_drewN (((Below.refl _ _).alloc (Nat.le_refl _) _).alloc (by simp) _) _⟩
set_option maxHeartbeats 1000000 in
/-- 'zzRecEqB1' of two records that read alike. -/
theorem rec_walk (nm st : ByteArray) (ttl : Int) (oq : Option (List ByteArray)) (qa qa' : Option Addr) (qn qc qn' qc' : Nat) (hlen : ∀ ss, oq = some ss → ss.length ≤ 1048576) (w : World) (h1 : Q w (.slice qa qn qc) oq) (h2 : Q w (.slice qa' qn' qc') oq) :
    Calls Try.prog 15 #[.agg #[.string nm, .slice qa qn qc, .string st, .int .i64 ttl], .agg #[.string nm, .slice qa' qn' qc', .string st, .int .i64 ttl]] w fun e w' => e = .returned (.bool true) ∧ Below w.heap.size w w' := by
  have H1 := hid_mk h1; have H2 := hid_mk h2
  clear h1 h2
  go_enter Try.func15, Try.ntmps15
  go_wp2_with fail
  refine (strs_walk oq _ _ hlen _ (H1.out.stays (((Below.refl _ _).alloc (Nat.le_refl _) _).alloc (by simp) _)) (H2.out.stays (((Below.refl _ _).alloc (Nat.le_refl _) _).alloc (by simp) _))).mono ?_
  rintro e w' ⟨rfl, q, rfl⟩
  go_wp2
  go_ret
  exact ⟨rfl, below_drewN (((Below.refl _ _).alloc (Nat.le_refl _) _).alloc (by simp) _) _⟩
end Go.Proofs.Qxb6630079a
