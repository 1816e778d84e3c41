import Derived.Test.Qxb6630079aWrap
import Derived.Deep.Slices
import Derived.SliceStrings
import Derived.ProofKit
import Derived.OpenShut
import Derived.ShutString
import Derived.ChangeOld
import Derived.Below
namespace Go.Proofs.Qxb6630079a
open Go.ChangeShapes Go.WideShapes Go.ChangeAt Go.RowKit

theorem own : ownKnob Try.prog.godebug = none := by kernel_rfl
theorem laidOut : laidOutB Try.prog = true := by kernel_rfl
theorem cs33 : Try.prog.cellsOf 33 = 5 := by kernel_rfl
theorem cs9 : Try.prog.cellsOf 9 = 1 := by kernel_rfl
theorem cs26 : Try.prog.cellsOf 26 = 1 := by kernel_rfl
theorem cs2 : Try.prog.cellsOf 2 = 1 := by kernel_rfl
theorem cs4 : Try.prog.cellsOf 4 = 1 := by kernel_rfl

/-- One worker's cells, opened. -/
theorem open_one {H : Type} {enc : TypeId × Value → H} {w : World} {base : Nat} {spare : Nat → Bool} {held : Bool} {fuel : Nat} {cs : List Value} {x : DataW H × List MemPlace} (h : DataW.trod enc Try.prog w base spare held fuel 33 cs = some x) :
    ∃ (a : WA) (v : Value), cs = [.string a.1, v, .string a.2.2.1, .int .i64 a.2.2.2.1, .bool a.2.2.2.2] ∧ Q w v a.2.1 ∧ (a.1.size ≤ maxLen ∧ a.2.2.1.size ≤ maxLen ∧ ∀ ss, a.2.1 = some ss → ss.length ≤ maxLen ∧ ∀ s ∈ ss, s.size ≤ maxLen) := by
  obtain ⟨xs, n, _, _, hl, hlen, hf⟩ := DataW.trod_struct Try.underlying33 h
  rw [cs33] at hl
  match cs, hl with
  | [c0, c1, c2, c3, c4], _ =>
    match xs, hlen with
    | [x0, x1, x2, x3, x4], _ =>
      have h0 : DataW.trod enc Try.prog w base spare held n 9 (([c0, c1, c2, c3, c4].drop 0).take (Try.prog.cellsOf 9)) = [x0, x1, x2, x3, x4][0]? := hf 0 _ rfl
      rw [cs9] at h0
      have h1 : DataW.trod enc Try.prog w base spare held n 26 (([c0, c1, c2, c3, c4].drop 1).take (Try.prog.cellsOf 26)) = [x0, x1, x2, x3, x4][1]? := hf 1 _ rfl
      rw [cs26] at h1
      have h2 : DataW.trod enc Try.prog w base spare held n 9 (([c0, c1, c2, c3, c4].drop 2).take (Try.prog.cellsOf 9)) = [x0, x1, x2, x3, x4][2]? := hf 2 _ rfl
      rw [cs9] at h2
      have h3 : DataW.trod enc Try.prog w base spare held n 2 (([c0, c1, c2, c3, c4].drop 3).take (Try.prog.cellsOf 2)) = [x0, x1, x2, x3, x4][3]? := hf 3 _ rfl
      rw [cs2] at h3
      have h4 : DataW.trod enc Try.prog w base spare held n 4 (([c0, c1, c2, c3, c4].drop 4).take (Try.prog.cellsOf 4)) = [x0, x1, x2, x3, x4][4]? := hf 4 _ rfl
      rw [cs4] at h4
      simp at h0 h1 h2 h3 h4
      obtain ⟨s0, e0, _, l0⟩ := DataW.trod_string Try.underlying9 h0
      obtain ⟨s2, e2, _, l2⟩ := DataW.trod_string Try.underlying9 h2
      obtain ⟨t, e3, _, _⟩ := DataW.trod_int Try.underlying2 h3
      obtain ⟨b, e4, _⟩ := DataW.trod_bool Try.underlying4 h4
      simp at e0 e2 e3 e4
      subst e0 e2 e3 e4
      rcases open_strings Try.underlying26 Try.underlying9 cs9 h1 with ⟨e1, _⟩ | ⟨a, len, cap, ss, e1, _, hl1, hm1, hz, _, hc, hsz⟩
      · simp at e1
        subst e1
        exact ⟨(s0, none, s2, t, b), _, rfl, .inl ⟨rfl, rfl⟩, l0, l2, fun ss e => by cases e⟩
      · simp at e1
        subst e1
        have hle : len ≤ ss.length := by rw [hz]; split <;> omega
        have hll : (ss.take len).length = len := by rw [List.length_take]; omega
        refine ⟨(s0, some (ss.take len), s2, t, b), _, rfl, .inr ⟨_, a, cap, rfl, by rw [hll], fun j hj => ?_⟩, l0, l2, fun ss' e => ?_⟩
        · rw [hll] at hj
          rw [hc j (by omega)]
          simp [List.getD, show j < ss.length by omega]
        · cases e
          exact ⟨by rw [hll]; omega, fun s hs => hsz s (List.mem_of_mem_take hs)⟩

/-- The argument, opened. -/
theorem arg_open {H : Type} {enc : TypeId × Value → H} {w : World} {base : Nat} {spare : Nat → Bool} {held : Bool} {fuel : Nat} {a : Option Addr} {n c : Nat} {x : DataW H × List MemPlace} (h : DataW.trod enc Try.prog w base spare held fuel 22 [.slice a n c] = some x) :
    ∃ A : List WA, ArgOK w (.slice a n c) A ∧ Sized A := by
  rcases Deep.open_slice Try.underlying22 h with ⟨e, _⟩ | ⟨ad, len, cap, m, k, D, Pl, e, _, hl, hm, hmm, _, hx⟩
  · simp at e
    obtain ⟨rfl, rfl, rfl⟩ := e
    exact ⟨[], .inl ⟨rfl, rfl⟩, fun a h => by cases h⟩
  · simp at e
    obtain ⟨rfl, rfl, rfl⟩ := e
    have hlm : n ≤ m := by rw [hmm]; split <;> omega
    rw [cs33] at hx
    by_cases h0 : n = 0
    · subst h0
      exact ⟨[], .inr (.inl ⟨rfl, _, _, rfl⟩), fun a h => by cases h⟩
    have hex : ∀ i, ∃ y : WA, i < n → ∃ v, w.cell? (ad.add (i * 5)) = some (.string y.1) ∧ w.cell? ((ad.add (i * 5)).add 1) = some v ∧ Q w v y.2.1 ∧ w.cell? ((ad.add (i * 5)).add 2) = some (.string y.2.2.1) ∧ w.cell? ((ad.add (i * 5)).add 3) = some (.int .i64 y.2.2.2.1) ∧ w.cell? ((ad.add (i * 5)).add 4) = some (.bool y.2.2.2.2) ∧ (y.1.size ≤ maxLen ∧ y.2.2.1.size ≤ maxLen ∧ ∀ ss, y.2.1 = some ss → ss.length ≤ maxLen ∧ ∀ s ∈ ss, s.size ≤ maxLen) := by
      intro i
      by_cases hi : i < n
      · obtain ⟨cs', h1, h2⟩ := hx i (by omega)
        obtain ⟨y, v, rfl, hq, hs⟩ := open_one h2
        obtain ⟨_, _, hc⟩ := World.cells?_some h1
        refine ⟨y, fun _ => ⟨v, ?_, ?_, hq, ?_, ?_, ?_, hs⟩⟩
        · have := hc 0 (by omega); simpa [Addr.add] using this
        · have := hc 1 (by omega); simpa using this
        · have := hc 2 (by omega); simpa using this
        · have := hc 3 (by omega); simpa using this
        · have := hc 4 (by omega); simpa using this
      · exact ⟨dA, fun h => absurd h hi⟩
    obtain ⟨F, hF⟩ : ∃ F : Nat → WA, ∀ i, i < n → ∃ v, w.cell? (ad.add (i * 5)) = some (.string (F i).1) ∧ w.cell? ((ad.add (i * 5)).add 1) = some v ∧ Q w v (F i).2.1 ∧ w.cell? ((ad.add (i * 5)).add 2) = some (.string (F i).2.2.1) ∧ w.cell? ((ad.add (i * 5)).add 3) = some (.int .i64 (F i).2.2.2.1) ∧ w.cell? ((ad.add (i * 5)).add 4) = some (.bool (F i).2.2.2.2) ∧ ((F i).1.size ≤ maxLen ∧ (F i).2.2.1.size ≤ maxLen ∧ ∀ ss, (F i).2.1 = some ss → ss.length ≤ maxLen ∧ ∀ s ∈ ss, s.size ≤ maxLen) :=
      ⟨fun i => (hex i).choose, fun i hi => (hex i).choose_spec hi⟩
    obtain ⟨b, off, spot⟩ := ad
    have hspot : spot = none := by
      obtain ⟨v, h1, _⟩ := hF 0 (by omega)
      simpa [Addr.add] using World.cell?_spot h1
    subst hspot
    refine ⟨(List.range n).map F, .inr (.inr ⟨b, off, c, by simp, fun j hj => ?_⟩), fun y hy => ?_⟩
    · have hj' : j < n := by simpa using hj
      obtain ⟨v, h1, h2, h3, h4, h5, h6, _⟩ := hF j hj'
      simp only [add_lit] at h1 h2 h4 h5 h6
      simp only [List.getElem_map, List.getElem_range]
      exact ⟨h1, ⟨v, h2, h3⟩, h4, h5, h6⟩
    · obtain ⟨i, hi, rfl⟩ := List.mem_map.1 hy
      obtain ⟨v, _, _, _, _, _, _, h7⟩ := hF i (by simpa using hi)
      exact h7
end Go.Proofs.Qxb6630079a
