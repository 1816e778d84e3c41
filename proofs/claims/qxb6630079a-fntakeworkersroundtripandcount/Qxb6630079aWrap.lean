import Derived.Test.Qxb6630079aSmall
namespace Go.Proofs.Qxb6630079a
open Go.RowKit

/-- The argument as it came in. -/
def ArgOK (w : World) (v : Value) (A : List WA) : Prop :=
  (A = [] ∧ v = .slice none 0 0) ∨ (A = [] ∧ ∃ x cap, v = .slice (some x) 0 cap) ∨ ∃ b off cap, v = .slice (some ⟨b, off, none⟩) A.length cap ∧ WsAt w b off A
/-- .. as a clone of it is. -/
def OV (w : World) (v : Value) (A : List WA) : Prop := (A = [] ∧ v = .slice none 0 0) ∨ ∃ g cap, v = .slice (some ⟨g, 0, none⟩) A.length cap ∧ WsAt w g 0 A
theorem OV.arg {w : World} {v : Value} {A : List WA} (h : OV w v A) : ArgOK w v A := by
  rcases h with h | ⟨g, cap, h1, h2⟩
  · exact .inl h
  · exact .inr (.inr ⟨g, 0, cap, h1, h2⟩)
theorem OV.stays {w w' : World} {v : Value} {A : List WA} (h : OV w v A) (hb : Below w.heap.size w w') : OV w' v A := by
  rcases h with h | ⟨g, cap, h1, h2⟩
  · exact .inl h
  · exact .inr ⟨g, cap, h1, h2.stays hb⟩
theorem ArgOK.shape {w : World} {v : Value} {A : List WA} (h : ArgOK w v A) : ∃ a c, v = .slice a A.length c := by
  rcases h with ⟨rfl, rfl⟩ | ⟨rfl, x, cap, rfl⟩ | ⟨b, off, cap, rfl, _⟩
  · exact ⟨_, _, rfl⟩
  · exact ⟨_, _, rfl⟩
  · exact ⟨_, _, rfl⟩
theorem ArgOK.stays {w w' : World} {v : Value} {A : List WA} (h : ArgOK w v A) (hb : Below w.heap.size w w') : ArgOK w' v A := by
  rcases h with h | h | ⟨b, off, cap, h1, h2⟩
  · exact .inl h
  · exact .inr (.inl h)
  · exact .inr (.inr ⟨b, off, cap, h1, h2.stays hb⟩)
/-- A row of pointers. -/
def PV (w : World) (v : Value) (A : List WA) : Prop := (A = [] ∧ v = .slice none 0 0) ∨ ∃ c cap ps, v = .slice (some ⟨c, 0, none⟩) A.length cap ∧ PsAt w c ps A

set_option maxHeartbeats 1000000 in
theorem bytes5_empty (a : Option Addr) (cap : Nat) (w : World) : Calls Try.prog 5 #[.slice a 0 cap] w fun e w' => AnyBool e ∧ w' = w := by
  go_enter Try.func5, Try.ntmps5
  go_wp2
  go_loop [3, 4] (fun t i => t = .int .i64 0 ∧ i = .int .i64 0) (fun _ _ => 0)
  case atStart => exact ⟨rfl, rfl⟩
  case round =>
    obtain ⟨rfl, rfl⟩ := hrel
    go_wp2
    go_ret
    exact ⟨any_mk _, rfl⟩
set_option maxHeartbeats 1000000 in
theorem bytes13_empty (a : Option Addr) (cap : Nat) (w : World) : Calls Try.prog 13 #[.slice a 0 cap] w fun e w' => AnyBool e ∧ w' = w := by
  go_enter Try.func13, Try.ntmps13
  go_wp2
  go_loop [3, 4] (fun t i => t = .int .i64 0 ∧ i = .int .i64 0) (fun _ _ => 0)
  case atStart => exact ⟨rfl, rfl⟩
  case round =>
    obtain ⟨rfl, rfl⟩ := hrel
    go_wp2
    go_ret
    exact ⟨any_mk _, rfl⟩
set_option maxHeartbeats 1000000 in
theorem small_empty (a : Option Addr) (cap : Nat) (w : World) : Calls Try.prog 6 #[.slice a 0 cap] w fun e w' => SmallBool [] e ∧ w' = w := by
  go_enter Try.func6, Try.ntmps6
  go_wp2
  go_loop [3, 4] (fun t i => t = .int .i64 0 ∧ i = .int .i64 0) (fun _ _ => 0)
  case atStart => exact ⟨rfl, rfl⟩
  case round =>
    obtain ⟨rfl, rfl⟩ := hrel
    go_wp2
    go_ret
    exact ⟨⟨true, rfl, fun _ a h => by cases h⟩, rfl⟩
set_option maxHeartbeats 1000000 in
theorem clone_empty (x : Addr) (cap : Nat) (w : World) : Calls Try.prog 7 #[.slice (some x) 0 cap] w fun e w' => e = .returned (.slice (some ⟨w.heap.size, 0, none⟩) 0 0) ∧ Below w.heap.size w w' := by
  have ke := fun (wx : World) (a : Option Addr) (n c : Nat) => Lib.run_eql_slice_nil (P := Try.prog) wx 22 33 a n c 0 0 Try.underlying22
  obtain ⟨i0, hi, hz0, hz1, hz2⟩ := info_parts Try.info33
  obtain ⟨wm, hmk, hown0, hgr0⟩ := run_make_full (P := Try.prog) w w.heap.size 22 33 i0 _ 5 Try.underlying22 hi hz0 hz1 .i64 .i64 0 (by rw [hz2]; omega) (by unfold maxLen; omega) (Nat.le_refl _)
  have hbel0 : Below w.heap.size w wm := (Below.refl _ _).grown hgr0 (Nat.le_refl _) (by intro k h; cases h)
  have HB := hid_mk hbel0
  obtain ⟨g, HG⟩ : ∃ g, Hid (w.heap.size = g) := ⟨_, rfl⟩
  rw [HG.out] at hmk ⊢
  clear hown0 hgr0 hbel0
  simp only [Int.cast_ofNat_Int] at hmk
  go_enter Try.func7, Try.ntmps7
  go_wp2
  go_loop [4] (fun i => i = .int .i64 0) (fun _ => 0)
  case atStart => rfl
  case round =>
    subst hrel
    go_wp2
    go_ret
    exact ⟨rfl, by rw [← HG.out]; exact HB.out⟩

theorem bytes5_any (A : List WA) (v : Value) (w : World) (h : ArgOK w v A) (hS : Sized A) : Calls Try.prog 5 #[v] w fun e w' => AnyBool e ∧ w' = w := by
  rcases h with ⟨_, rfl⟩ | ⟨_, x, cap, rfl⟩ | ⟨b, off, cap, rfl, h⟩
  · exact bytes5_empty _ _ w
  · exact bytes5_empty _ _ w
  · exact bytes5_walk A b off cap w h hS
theorem bytes13_any (A : List WA) (v : Value) (w : World) (h : ArgOK w v A) (hS : Sized A) : Calls Try.prog 13 #[v] w fun e w' => AnyBool e ∧ w' = w := by
  rcases h with ⟨_, rfl⟩ | ⟨_, x, cap, rfl⟩ | ⟨b, off, cap, rfl, h⟩
  · exact bytes13_empty _ _ w
  · exact bytes13_empty _ _ w
  · exact bytes13_walk A b off cap w h hS
theorem small_any (A : List WA) (v : Value) (hlen : A.length ≤ 4096) (w : World) (h : ArgOK w v A) (hS : Sized A) : Calls Try.prog 6 #[v] w fun e w' => SmallBool A e ∧ w' = w := by
  rcases h with ⟨rfl, rfl⟩ | ⟨rfl, x, cap, rfl⟩ | ⟨b, off, cap, rfl, h⟩
  · exact small_empty _ _ w
  · exact small_empty _ _ w
  · exact small_walk A b off cap hlen w h hS
theorem clone_any (A : List WA) (v : Value) (hlen : A.length ≤ 4096) (hq : ∀ a ∈ A, ∀ ss, a.2.1 = some ss → ss.length ≤ 65536) (w : World) (h : ArgOK w v A) : Calls Try.prog 7 #[v] w fun e w' => ∃ a c, e = .returned (.slice a A.length c) ∧ OV w' (.slice a A.length c) A ∧ Below w.heap.size w w' := by
  rcases h with ⟨rfl, rfl⟩ | ⟨rfl, x, cap, rfl⟩ | ⟨b, off, cap, rfl, h⟩
  · refine (clone_nil w).mono ?_
    rintro e w' ⟨rfl, rfl⟩
    exact ⟨_, _, rfl, .inl ⟨rfl, rfl⟩, Below.refl _ _⟩
  · refine (clone_empty x cap w).mono ?_
    rintro e w' ⟨rfl, h2⟩
    exact ⟨_, _, rfl, .inr ⟨_, _, rfl, fun j hj => by simp at hj⟩, h2⟩
  · refine (clone_walk A b off cap hlen hq w h).mono ?_
    rintro e w' ⟨rfl, h1, h2⟩
    exact ⟨_, _, rfl, .inr ⟨_, _, rfl, h1⟩, h2⟩
theorem build_any (A : List WA) (v : Value) (hlen : A.length ≤ 4096) (w : World) (h : OV w v A) : Calls Try.prog 9 #[v] w fun e w' => ∃ a c, e = .returned (.slice a A.length c) ∧ PV w' (.slice a A.length c) A ∧ Below w.heap.size w w' := by
  rcases h with ⟨rfl, rfl⟩ | ⟨g, cap, rfl, h⟩
  · refine (build_nil w).mono ?_
    rintro e w' ⟨rfl, rfl⟩
    exact ⟨_, _, rfl, .inl ⟨rfl, rfl⟩, Below.refl _ _⟩
  · refine (build_walk A g cap hlen w h).mono ?_
    rintro e w' ⟨rfl, ⟨ps, h1⟩, h2⟩
    exact ⟨_, _, rfl, .inr ⟨_, _, ps, rfl, h1⟩, h2⟩
theorem take_any (A : List WA) (v : Value) (hlen : A.length ≤ 4096) (hnm : ∀ a ∈ A, a.1.size ≤ maxLen) (w : World) (h : PV w v A) : Calls Try.prog 17 #[v] w (TakeEnds A w) := by
  rcases h with ⟨rfl, rfl⟩ | ⟨c, cap, ps, rfl, h⟩
  · exact take_empty _ _ w
  · exact take_walk A ps c cap hlen hnm w h
theorem RecsOK.shape {w : World} {rv : Value} {rs : List RA} (h : RecsOK w rv rs) : ∃ a c, rv = .slice a rs.length c := by
  rcases h with ⟨rfl, rfl⟩ | ⟨_, g, c, rfl, _⟩
  · exact ⟨_, _, rfl⟩
  · exact ⟨_, _, rfl⟩
theorem GoneOK.shape {w : World} {rv : Value} {rs : List ByteArray} (h : GoneOK w rv rs) : ∃ a c, rv = .slice a rs.length c := by
  rcases h with ⟨rfl, rfl⟩ | ⟨_, g, c, rfl, _⟩
  · exact ⟨_, _, rfl⟩
  · exact ⟨_, _, rfl⟩
set_option maxHeartbeats 1000000 in
/-- 'ZZtakeWorkers'. -/
theorem zztake_any (A : List WA) (v : Value) (hlen : A.length ≤ 4096) (hnm : ∀ a ∈ A, a.1.size ≤ maxLen) (w : World) (h : PV w v A) : Calls Try.prog 8 #[v] w fun e w' => Below w.heap.size w w' ∧ ∃ ra rc ga gc, e = .returned (.tuple #[.slice ra (recsA A).length rc, .slice ga (gonesA A).length gc]) ∧ RecsOK w' (.slice ra (recsA A).length rc) (recsA A) ∧ GoneOK w' (.slice ga (gonesA A).length gc) (gonesA A) := by
  have HP := hid_mk h
  clear h
  go_enter Try.func8, Try.ntmps8
  go_wp2_with fail
  refine (take_any A v hlen hnm w HP.out).mono ?_
  rintro e w' ⟨hb, rv, gv, rfl, h1, h2⟩
  obtain ⟨ra, rc, hr⟩ := h1.shape
  obtain ⟨ga, gc, hg⟩ := h2.shape
  subst hr hg
  have HB := hid_mk hb
  have H1 := hid_mk h1
  have H2 := hid_mk h2
  clear hb h1 h2
  go_wp2
  go_ret2
  exact ⟨HB.out, _, _, _, _, rfl, H1.out, H2.out⟩
end Go.Proofs.Qxb6630079a
