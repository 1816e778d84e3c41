import Derived.Test.Qxb6630079aTakeWalk
namespace Go.Proofs.Qxb6630079a
open Go.RowKit

/-- Some truth value came back. -/
def AnyBool (e : Ending) : Prop := ∃ x : Bool, e = .returned (.bool x)
theorem any_mk (x : Bool) : AnyBool (.returned (.bool x)) := ⟨x, rfl⟩
/-- What a Go value's lengths keep to. -/
def Sized (A : List WA) : Prop := ∀ a ∈ A, a.1.size ≤ maxLen ∧ a.2.2.1.size ≤ maxLen ∧ ∀ ss, a.2.1 = some ss → ss.length ≤ maxLen ∧ ∀ s ∈ ss, s.size ≤ maxLen
/-- A worker's cells, as the two size counts read them. -/
theorem size_at {w : World} {b off : Nat} {A : List WA} (hA : WsAt w b off A) (hS : Sized A) (k : Nat) (h : k < A.length) :
    ∃ nm st va vn vc, w.cell? ⟨b, off + k * 5, none⟩ = some (.string nm) ∧ w.cell? ⟨b, off + k * 5 + 1, none⟩ = some (.slice va vn vc) ∧ w.cell? ⟨b, off + k * 5 + 2, none⟩ = some (.string st) ∧ nm.size ≤ maxLen ∧ st.size ≤ maxLen ∧ vn ≤ maxLen ∧
      Hid (∀ j, j < vn → ∃ x s, va = some x ∧ w.cell? (x.add j) = some (.string s) ∧ s.size ≤ maxLen) ∧ Hid (∀ ss, A[k].2.1 = some ss → ss.length = vn) := by
  obtain ⟨h1, ⟨v, h2, h3⟩, h4, _⟩ := hA k h
  obtain ⟨s1, s2, s3⟩ := hS _ (List.getElem_mem h)
  rcases h3 with ⟨hq, rfl⟩ | ⟨ss, x, cap, hq, rfl, hc⟩
  · exact ⟨_, _, _, _, _, h1, h2, h4, s1, s2, by unfold maxLen; omega, hid_mk (fun j hj => by omega), hid_mk (fun ss e => by rw [hq] at e; cases e)⟩
  · obtain ⟨l1, l2⟩ := s3 ss hq
    exact ⟨_, _, _, _, _, h1, h2, h4, s1, s2, l1, hid_mk (fun j hj => ⟨x, ss[j], rfl, hc j hj, l2 _ (List.getElem_mem hj)⟩), hid_mk (fun ss' e => by rw [hq] at e; cases e; rfl)⟩

set_option maxRecDepth 100000 in
set_option maxHeartbeats 4000000 in
/-- 'zzBytes' (FnTakeWorkersMatchesLastStateModel). -/
theorem bytes5_walk (A : List WA) (b off cap : Nat) (w : World) (hA : WsAt w b off A) (hS : Sized A) :
    Calls Try.prog 5 #[.slice (some ⟨b, off, none⟩) A.length cap] w fun e w' => AnyBool e ∧ w' = w := by
  have HA := hid_mk hA
  have HS := hid_mk hS
  clear hA hS
  go_enter Try.func5, Try.ntmps5
  by_cases hbig : 1048576 < A.length
  · go_wp2
    go_ret
    exact ⟨any_mk _, rfl⟩
  go_wp2
  go_loop [3, 4] (fun vt vi => ∃ T k : Nat, T ≤ 1048576 ∧ k ≤ A.length ∧ vt = .int .i64 (T : Int) ∧ vi = .int .i64 (k : Int)) (fun _ vi => A.length - (intOf vi).toNat)
  case atStart => exact ⟨A.length, 0, by omega, by omega, by go_num, rfl⟩
  case round =>
    obtain ⟨T, k, hT, hk, rfl, rfl⟩ := hrel
    by_cases hlt : k < A.length
    · obtain ⟨nm, st, va, vn, vc, c0, c1, c2, l0, l1, l2, HQ, _⟩ := size_at HA.out HS.out k hlt
      unfold maxLen at l0 l1 l2
      by_cases t1 : 1048576 < nm.size
      · go_wp2
        go_ret
        exact ⟨any_mk _, rfl⟩
      by_cases t2 : 1048576 < T + nm.size
      · go_wp2
        go_ret
        exact ⟨any_mk _, rfl⟩
      by_cases t3 : 1048576 < vn
      · go_wp2
        go_ret
        exact ⟨any_mk _, rfl⟩
      by_cases t4 : 1048576 < T + nm.size + vn
      · go_wp2
        go_ret
        exact ⟨any_mk _, rfl⟩
      go_wp2
      go_loop [3, 5] (fun vt vj => ∃ U j : Nat, U ≤ 1048576 ∧ j ≤ vn ∧ vt = .int .i64 (U : Int) ∧ vj = .int .i64 (j : Int)) (fun _ vj => vn - (intOf vj).toNat)
      case atStart => exact ⟨T + nm.size + vn, 0, by omega, by omega, by go_num, rfl⟩
      case round =>
        obtain ⟨U, j, hU, hj, rfl, rfl⟩ := hrel
        by_cases hlj : j < vn
        · obtain ⟨x, s, rfl, c3, l3⟩ := HQ.out j hlj
          unfold maxLen at l3
          by_cases t5 : 1048576 < s.size
          · go_wp2
            go_ret
            exact ⟨any_mk _, rfl⟩
          by_cases t6 : 1048576 < U + s.size
          · go_wp2
            go_ret
            exact ⟨any_mk _, rfl⟩
          go_wp2
          go_round
          case rel => exact ⟨U + s.size, j + 1, by omega, by omega, by go_num, by go_num⟩
          case measure => simp [intOf]; omega
        · by_cases t7 : 1048576 < st.size
          · go_wp2
            go_ret
            exact ⟨any_mk _, rfl⟩
          by_cases t8 : 1048576 < U + st.size
          · go_wp2
            go_ret
            exact ⟨any_mk _, rfl⟩
          go_wp2
          go_round
          case rel => exact ⟨U + st.size, k + 1, by omega, by omega, by go_num, by go_num⟩
          case measure => simp [intOf]; omega
    · go_wp2
      go_ret
      exact ⟨any_mk _, rfl⟩

set_option maxRecDepth 100000 in
set_option maxHeartbeats 4000000 in
/-- 'zzBytes' (FnTakeWorkersRoundTripAndCount). -/
theorem bytes13_walk (A : List WA) (b off cap : Nat) (w : World) (hA : WsAt w b off A) (hS : Sized A) :
    Calls Try.prog 13 #[.slice (some ⟨b, off, none⟩) A.length cap] w fun e w' => AnyBool e ∧ w' = w := by
  have HA := hid_mk hA
  have HS := hid_mk hS
  clear hA hS
  go_enter Try.func13, Try.ntmps13
  by_cases hbig : 1048576 < A.length
  · go_wp2
    go_ret
    exact ⟨any_mk _, rfl⟩
  go_wp2
  go_loop [3, 4] (fun vt vi => ∃ T k : Nat, T ≤ 1048576 ∧ k ≤ A.length ∧ vt = .int .i64 (T : Int) ∧ vi = .int .i64 (k : Int)) (fun _ vi => A.length - (intOf vi).toNat)
  case atStart => exact ⟨A.length, 0, by omega, by omega, by go_num, rfl⟩
  case round =>
    obtain ⟨T, k, hT, hk, rfl, rfl⟩ := hrel
    by_cases hlt : k < A.length
    · obtain ⟨nm, st, va, vn, vc, c0, c1, c2, l0, l1, l2, HQ, _⟩ := size_at HA.out HS.out k hlt
      unfold maxLen at l0 l1 l2
      by_cases t1 : 1048576 < nm.size
      · go_wp2
        go_ret
        exact ⟨any_mk _, rfl⟩
      by_cases t2 : 1048576 < T + nm.size
      · go_wp2
        go_ret
        exact ⟨any_mk _, rfl⟩
      by_cases t3 : 1048576 < vn
      · go_wp2
        go_ret
        exact ⟨any_mk _, rfl⟩
      by_cases t4 : 1048576 < T + nm.size + vn
      · go_wp2
        go_ret
        exact ⟨any_mk _, rfl⟩
      go_wp2
      go_loop [3, 5] (fun vt vj => ∃ U j : Nat, U ≤ 1048576 ∧ j ≤ vn ∧ vt = .int .i64 (U : Int) ∧ vj = .int .i64 (j : Int)) (fun _ vj => vn - (intOf vj).toNat)
      case atStart => exact ⟨T + nm.size + vn, 0, by omega, by omega, by go_num, rfl⟩
      case round =>
        obtain ⟨U, j, hU, hj, rfl, rfl⟩ := hrel
        by_cases hlj : j < vn
        · obtain ⟨x, s, rfl, c3, l3⟩ := HQ.out j hlj
          unfold maxLen at l3
          by_cases t5 : 1048576 < s.size
          · go_wp2
            go_ret
            exact ⟨any_mk _, rfl⟩
          by_cases t6 : 1048576 < U + s.size
          · go_wp2
            go_ret
            exact ⟨any_mk _, rfl⟩
          go_wp2
          go_round
          case rel => exact ⟨U + s.size, j + 1, by omega, by omega, by go_num, by go_num⟩
          case measure => simp [intOf]; omega
        · by_cases t7 : 1048576 < st.size
          · go_wp2
            go_ret
            exact ⟨any_mk _, rfl⟩
          by_cases t8 : 1048576 < U + st.size
          · go_wp2
            go_ret
            exact ⟨any_mk _, rfl⟩
          go_wp2
          go_round
          case rel => exact ⟨U + st.size, k + 1, by omega, by omega, by go_num, by go_num⟩
          case measure => simp [intOf]; omega
    · go_wp2
      go_ret
      exact ⟨any_mk _, rfl⟩

/-- Some truth value came back; if it is true, no queue is longer than 65536. -/
def SmallBool (A : List WA) (e : Ending) : Prop := ∃ x : Bool, e = .returned (.bool x) ∧ (x = true → ∀ a ∈ A, ∀ ss, a.2.1 = some ss → ss.length ≤ 65536)
theorem small_no (A : List WA) : SmallBool A (.returned (.bool false)) := ⟨false, rfl, fun h => by cases h⟩
theorem small_yes {A : List WA} {k : Nat} (hk : A.length ≤ k) (h : ∀ j (hj : j < A.length), j < k → ∀ ss, A[j].2.1 = some ss → ss.length ≤ 65536) : SmallBool A (.returned (.bool true)) :=
  ⟨true, rfl, fun _ a ha ss e => by
    obtain ⟨j, hj, rfl⟩ := List.getElem_of_mem ha
    exact h j hj (by omega) ss e⟩
set_option maxRecDepth 100000 in
set_option maxHeartbeats 4000000 in
/-- 'zzSmallB1'. -/
theorem small_walk (A : List WA) (b off cap : Nat) (hlen : A.length ≤ 4096) (w : World) (hA : WsAt w b off A) (hS : Sized A) :
    Calls Try.prog 6 #[.slice (some ⟨b, off, none⟩) A.length cap] w fun e w' => SmallBool A e ∧ w' = w := by
  have HA := hid_mk hA
  have HS := hid_mk hS
  clear hA hS
  go_enter Try.func6, Try.ntmps6
  go_wp2
  go_loop [3, 4] (fun vt vi => ∃ (T : Int) (k : Nat), 0 ≤ T ∧ T ≤ 1048576 ∧ k ≤ A.length ∧ vt = .int .i64 T ∧ vi = .int .i64 (k : Int) ∧ Hid (∀ j (hj : j < A.length), j < k → ∀ ss, A[j].2.1 = some ss → ss.length ≤ 65536)) (fun _ vi => A.length - (intOf vi).toNat)
  case atStart => exact ⟨0, 0, by omega, by omega, by omega, by go_num, rfl, hid_mk (fun j _ h => by omega)⟩
  case round =>
    obtain ⟨T, k, hT0, hT, hk, rfl, rfl, HK⟩ := hrel
    by_cases hlt : k < A.length
    · obtain ⟨nm, st, va, vn, vc, c0, c1, c2, l0, l1, l2, HQ, HL⟩ := size_at HA.out HS.out k hlt
      unfold maxLen at l0 l1 l2
      by_cases t0 : 1048576 < T + 64
      · go_wp2
        go_ret
        exact ⟨small_no _, rfl⟩
      by_cases t1 : 1048576 < nm.size
      · go_wp2
        go_ret
        exact ⟨small_no _, rfl⟩
      by_cases t2 : 1048576 < T + 64 + nm.size
      · go_wp2
        go_ret
        exact ⟨small_no _, rfl⟩
      by_cases t7 : 1048576 < st.size
      · go_wp2
        go_ret
        exact ⟨small_no _, rfl⟩
      by_cases t8 : 1048576 < T + 64 + nm.size + st.size
      · go_wp2
        go_ret
        exact ⟨small_no _, rfl⟩
      by_cases t3 : 65536 < vn
      · go_wp2
        go_ret
        exact ⟨small_no _, rfl⟩
      by_cases t4 : 1048576 < T + 64 + nm.size + st.size + 16 * vn
      · go_wp2
        go_ret
        exact ⟨small_no _, rfl⟩
      have HK2 : Hid (∀ j (hj : j < A.length), j < k + 1 → ∀ ss, A[j].2.1 = some ss → ss.length ≤ 65536) := hid_mk (fun j hj hjk ss e => by
        by_cases ej : j = k
        · subst ej; rw [HL.out ss e]; omega
        · exact HK.out j hj (by omega) ss e)
      go_wp2
      go_loop [3, 5] (fun vt vj => ∃ (U : Int) (j : Nat), 0 ≤ U ∧ U ≤ 1048576 ∧ j ≤ vn ∧ vt = .int .i64 U ∧ vj = .int .i64 (j : Int)) (fun _ vj => vn - (intOf vj).toNat)
      case atStart => exact ⟨T + 64 + nm.size + st.size + 16 * vn, 0, by omega, by omega, by omega, by go_num, rfl⟩
      case round =>
        obtain ⟨U, j, hU0, hU, hj, rfl, rfl⟩ := hrel
        by_cases hlj : j < vn
        · obtain ⟨x, s, rfl, c3, l3⟩ := HQ.out j hlj
          unfold maxLen at l3
          by_cases t5 : 1048576 < s.size
          · go_wp2
            go_ret
            exact ⟨small_no _, rfl⟩
          by_cases t6 : 1048576 < U + s.size
          · go_wp2
            go_ret
            exact ⟨small_no _, rfl⟩
          go_wp2
          go_round
          case rel => exact ⟨U + s.size, j + 1, by omega, by omega, by omega, by go_num, by go_num⟩
          case measure => simp [intOf]; omega
        · go_wp2
          go_round
          case rel => exact ⟨U, k + 1, by omega, by omega, by omega, by go_num, by go_num, HK2⟩
          case measure => simp [intOf]; omega
    · have HY := hid_mk (small_yes (A := A) (k := k) (by omega) HK.out)
      go_wp2
      go_ret
      exact ⟨HY.out, rfl⟩
end Go.Proofs.Qxb6630079a
