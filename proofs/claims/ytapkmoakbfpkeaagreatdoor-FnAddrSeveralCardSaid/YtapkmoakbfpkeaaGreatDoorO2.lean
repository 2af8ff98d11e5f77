/- Arguments, opened: a list of lists of parts. Bytes handed over. -/
import Derived.Test.YtapkmoakbfpkeaaGreatDoorF0
import Derived.Test.YtapkmoakbfpkeaaGreatDoorZD
import Derived.Deep.Slices
namespace Go.Proofs.YtapkmoakbfpkeaaGreatDoor
open Go Go.RowKit Go.Proofs Go.Sort Go.ChangeShapes Go.WideShapes Go.Deep
instance : Inhabited LEl := ⟨⟨none, 0, []⟩⟩
section
variable {H : Type} {enc : TypeId × Value → H} {w : World} {base : Nat} {held : Bool}
set_option maxRecDepth 100000 in
/-- The parts of an address, as an element. -/
theorem open_hops_cs {fuel : Nat} {cs : List Value} {x : DataW H × List MemPlace} (h : DataW.trod enc Tryz.prog w base (fun _ => true) held fuel 22 cs = some x) : ∃ a : LEl, cs = [a.v] ∧ LIn w a.p a.l ∧ a.l.length ≤ a.c := by
  rcases open_slice_pairs Tryz.underlying22 Tryz.underlying29 (by kernel_rfl) rfl rfl (by kernel_rfl) (by kernel_rfl) h with ⟨h1, _⟩ | ⟨a, len, cap, m, n, V0, V1, D0, D1, P0, P1, h1, _, hl, _, hm, _, hi⟩
  · exact ⟨⟨none, 0, []⟩, h1, fun h => by simp at h, Nat.le_refl _⟩
  · obtain rfl : m = cap := hm
    have each : ∀ i, i < m → ∃ y : HIn, w.cell? (a.add (i * 2)) = some (.int .u8 y.K) ∧ w.cell? (a.add (i * 2 + 1)) = some y.s.v ∧ y.Ok0 w := fun i him => by
      obtain ⟨c0, c1, t0, t1⟩ := hi i him
      obtain ⟨K, hK, _, hw⟩ := DataW.trod_int Tryz.underlying5 t0
      obtain ⟨s, hs, hok, hu, _⟩ := open_sl t1
      simp only [List.cons.injEq, and_true] at hK hs
      exact ⟨⟨K, s⟩, by rw [c0, hK], by rw [c1, hs], wf_u8 hw, hok, hu⟩
    obtain ⟨F, hF⟩ := choose_lt each
    refine ⟨⟨some a, m, (List.range len).map F⟩, by rw [h1]; simp [LEl.v], fun hpos => ?_, by simpa using hl⟩
    have hlen : 0 < len := by simpa using hpos
    obtain ⟨b, o, s⟩ := a
    obtain rfl : s = none := by simpa [Addr.add] using World.cell?_spot (hF 0 (by omega)).1
    refine ⟨b, o, rfl, fun i y hy => ?_⟩
    have hil : i < len := by simpa using (List.getElem?_eq_some_iff.1 hy).1
    obtain rfl : F i = y := by simpa [hil] using hy
    obtain ⟨q0, q1, q2⟩ := hF i (by omega)
    rw [Go.WideShapes.add_plain] at q0 q1
    exact ⟨q0, q1, q2⟩
set_option maxRecDepth 100000 in
theorem open_hopss {r : Reach} {b0 : Nat} {v : Value} {d : DataW H} {p : List MemPlace} (hval : Value.okWide Tryz.prog w r b0 42 v) (h : DataW.Trod enc Tryz.prog w base (fun _ => true) held 42 v d p) :
    ∃ (a : Option Addr) (k c : Nat) (ls : List LEl), v = .slice a k c ∧ ls.length = k ∧ k ≤ c ∧ (c ≤ 9223372036854775807 ∧ (a = none → c = 0)) ∧ LLIn w a ls := by
  obtain ⟨a0, len0, cap0, rfl⟩ := okWide_slice Tryz.underlying42 hval
  obtain ⟨fuel, hf⟩ := h
  have hf' : DataW.trod enc Tryz.prog w base (fun _ => true) held fuel 42 [.slice a0 len0 cap0] = some (d, p) := hf
  rcases open_slice1 Tryz.underlying42 (by kernel_rfl) hf' with ⟨h1, _⟩ | ⟨a, len, cap, m, n, V, D, Pl, h1, _, hl, hcm, hm, _, hi⟩
  · simp only [List.cons.injEq, Value.slice.injEq, and_true] at h1
    obtain ⟨rfl, rfl, rfl⟩ := h1
    exact ⟨none, 0, 0, [], rfl, rfl, Nat.le_refl _, ⟨by omega, fun _ => rfl⟩, fun h => by simp at h⟩
  · simp only [List.cons.injEq, Value.slice.injEq, and_true] at h1
    obtain ⟨rfl, rfl, rfl⟩ := h1
    obtain rfl : m = cap0 := hm
    have each : ∀ i, i < m → ∃ y : LEl, w.cell? (a.add i) = some y.v ∧ LIn w y.p y.l ∧ y.l.length ≤ y.c := fun i him => by
      obtain ⟨c0, t0⟩ := hi i him
      obtain ⟨y, hy, h2, h3⟩ := open_hops_cs t0
      simp only [List.cons.injEq, and_true] at hy
      exact ⟨y, by rw [c0, hy], h2, h3⟩
    obtain ⟨F, hF⟩ := choose_lt each
    refine ⟨some a, len0, m, (List.range len0).map F, rfl, by simp, hl, ⟨by unfold maxLen at hcm; omega, fun h => by cases h⟩, fun hpos => ?_⟩
    have hlen : 0 < len0 := by simpa using hpos
    obtain ⟨b, o, s⟩ := a
    obtain rfl : s = none := by simpa [Addr.add] using World.cell?_spot (hF 0 (by omega)).1
    refine ⟨b, o, rfl, fun i y hy => ?_⟩
    have hil : i < len0 := by simpa using (List.getElem?_eq_some_iff.1 hy).1
    obtain rfl : F i = y := by simpa [hil] using hy
    obtain ⟨q0, q1, q2⟩ := hF i (by omega)
    rw [Go.WideShapes.add_plain] at q0
    exact ⟨q0, q1, q2⟩
end
end Go.Proofs.YtapkmoakbfpkeaaGreatDoor
namespace Go.Proofs.YtapkmoakbfpkeaaGreatDoor
open Go Go.RowKit Go.Proofs Go.Sort Go.ChangeShapes Go.WideShapes

set_option maxRecDepth 100000 in
/-- Bytes handed over. -/
theorem open_bytes {H : Type} {enc : TypeId × Value → H} {w : World} {base : Nat} {held : Bool} {r : Reach} {b0 : Nat} {v : Value} {d : DataW H} {p : List MemPlace} (hval : Value.okWide Tryz.prog w r b0 23 v) (h : DataW.Trod enc Tryz.prog w base (fun _ => true) held 23 v d p) :
    ∃ (a : Option Addr) (m c : Nat) (xs : List Int), v = .slice a m c ∧ (Sl.mk a m c xs).Ok w ∧ U8 xs ∧ m ≤ 9223372036854775807 := by
  obtain ⟨a0, len0, cap0, rfl⟩ := okWide_slice Tryz.underlying23 hval
  obtain ⟨fuel, hf⟩ := h
  have hf' : DataW.trod enc Tryz.prog w base (fun _ => true) held fuel 23 [.slice a0 len0 cap0] = some (d, p) := hf
  obtain ⟨s, hs, hok, hu, hl⟩ := open_sl hf'
  have hc : cap0 ≤ maxLen := by
    rcases open_ints Tryz.underlying23 Tryz.underlying5 (by kernel_rfl) hf' with ⟨h1, _⟩ | ⟨a, len, cap, zs, h1, _, _, hm, _⟩
    · simp only [List.cons.injEq, Value.slice.injEq, and_true] at h1
      rw [h1.2.2]; exact Nat.zero_le _
    · simp only [List.cons.injEq, Value.slice.injEq, and_true] at h1
      rw [h1.2.2]; exact hm
  obtain ⟨p1, m, c, xs⟩ := s
  have e : (Value.slice a0 len0 cap0) = .slice p1 m c := (List.cons.inj hs).1
  injection e with e1 e2 e3
  subst e1 e2 e3
  refine ⟨_, _, _, xs, rfl, hok, hu, ?_⟩
  have hl' : len0 ≤ cap0 := hl
  unfold maxLen at hc
  omega
end Go.Proofs.YtapkmoakbfpkeaaGreatDoor
