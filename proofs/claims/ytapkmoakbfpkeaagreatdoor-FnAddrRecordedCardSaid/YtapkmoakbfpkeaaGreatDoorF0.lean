/- Arguments, opened: bytes, and parts of an address. -/
import Derived.Test.YtapkmoakbfpkeaaGreatDoorE1
import Derived.Test.YtapkmoakbfpkeaaGreatDoorW1
import Derived.Deep.SlicePairs
import Derived.ProofKit
import Derived.OpenShut
import Derived.Stop.Joined
namespace Go.Proofs.YtapkmoakbfpkeaaGreatDoor
open Go Go.RowKit Go.Proofs Go.Sort Go.ChangeShapes Go.WideShapes Go.Deep

instance : Inhabited HIn := ⟨⟨0, ⟨none, 0, 0, []⟩⟩⟩
theorem ownKnob_none : ownKnob Tryz.prog.godebug = none := by kernel_rfl
theorem laidOut : laidOutB Tryz.prog = true := by kernel_rfl
theorem andT {a b : Bool} (ha : a = true) (hb : b = true) : (a && b) = true := by rw [ha, hb]; rfl
theorem wf_u8 {n : Int} (h : (Lit.int .u8 n).wf = true) : 0 ≤ n ∧ n < 256 := by
  have h2 : (decide (0 ≤ n) && decide (n ≤ 255)) = true := h
  simp at h2
  omega
section
variable {H : Type} {enc : TypeId × Value → H} {w : World} {base : Nat} {held : Bool}
set_option maxRecDepth 100000 in
/-- Bytes. -/
theorem open_sl {fuel : Nat} {cs : List Value} {x : DataW H × List MemPlace} (h : DataW.trod enc Tryz.prog w base (fun _ => true) held fuel 23 cs = some x) : ∃ s : Sl, cs = [s.v] ∧ s.Ok w ∧ U8 s.xs ∧ s.n ≤ s.c := by
  rcases open_ints Tryz.underlying23 Tryz.underlying5 (by kernel_rfl) h with ⟨h1, _⟩ | ⟨a, len, cap, zs, h1, _, hl, _, hz, _, hc, hw⟩
  · exact ⟨⟨none, 0, 0, []⟩, h1, ⟨rfl, Lib.BytesIn.nil _ _ _, fun _ => ⟨rfl, rfl⟩⟩, (fun x hx => by cases hx), Nat.le_refl _⟩
  · replace hz : zs.length = cap := hz
    refine ⟨⟨some a, len, cap, zs.take len⟩, h1, ⟨by show (zs.take len).length = len; rw [List.length_take]; omega, Lib.BytesIn.of_cells fun i hi => ?_, fun h => by cases h⟩, fun x hx => wf_u8 (hw x (List.mem_of_mem_take hx)), hl⟩
    have hi' : i < len := hi
    rw [hc i (by omega)]
    simp [List.getD, hi']
set_option maxRecDepth 100000 in
/-- The parts of an address. -/
theorem open_hops {r : Reach} {b0 : Nat} {v : Value} {d : DataW H} {p : List MemPlace} (hval : Value.okWide Tryz.prog w r b0 22 v) (h : DataW.Trod enc Tryz.prog w base (fun _ => true) held 22 v d p) :
    ∃ (a : Option Addr) (k c : Nat) (l : List HIn), v = .slice a k c ∧ l.length = k ∧ k ≤ c ∧ LIn w a l := by
  obtain ⟨a0, len0, cap0, rfl⟩ := okWide_slice Tryz.underlying22 hval
  obtain ⟨fuel, hf⟩ := h
  have hf' : DataW.trod enc Tryz.prog w base (fun _ => true) held fuel 22 [.slice a0 len0 cap0] = some (d, p) := hf
  rcases open_slice_pairs Tryz.underlying22 Tryz.underlying29 (by kernel_rfl) rfl rfl (by kernel_rfl) (by kernel_rfl) hf' with ⟨h1, _⟩ | ⟨a, len, cap, m, n, V0, V1, D0, D1, P0, P1, h1, _, hl, _, hm, _, hi⟩
  · simp only [List.cons.injEq, Value.slice.injEq, and_true] at h1
    obtain ⟨rfl, rfl, rfl⟩ := h1
    exact ⟨none, 0, 0, [], rfl, rfl, Nat.le_refl _, fun h => by simp at h⟩
  · simp only [List.cons.injEq, Value.slice.injEq, and_true] at h1
    obtain ⟨rfl, rfl, rfl⟩ := h1
    obtain rfl : m = cap0 := hm
    have each : ∀ i, i < m → ∃ y : HIn, w.cell? (a.add (i * 2)) = some (.int .u8 y.K) ∧ w.cell? (a.add (i * 2 + 1)) = some y.s.v ∧ y.Ok0 w := fun i him => by
      obtain ⟨c0, c1, t0, t1⟩ := hi i him
      obtain ⟨K, hK, _, hw⟩ := DataW.trod_int Tryz.underlying5 t0
      obtain ⟨s, hs, hok, hu, _⟩ := open_sl t1
      simp only [List.cons.injEq, and_true] at hK hs
      exact ⟨⟨K, s⟩, by rw [c0, hK], by rw [c1, hs], wf_u8 hw, hok, hu⟩
    obtain ⟨F, hF⟩ := choose_lt each
    refine ⟨some a, len0, m, (List.range len0).map F, rfl, by simp, hl, fun hpos => ?_⟩
    have hlen : 0 < len0 := by simpa using hpos
    obtain ⟨b, o, s⟩ := a
    obtain rfl : s = none := by simpa [Addr.add] using World.cell?_spot (hF 0 (by omega)).1
    refine ⟨b, o, rfl, fun i y hy => ?_⟩
    have hil : i < len0 := by simpa using (List.getElem?_eq_some_iff.1 hy).1
    obtain rfl : F i = y := by simpa [hil] using hy
    obtain ⟨q0, q1, q2⟩ := hF i (by omega)
    rw [Go.WideShapes.add_plain] at q0 q1
    exact ⟨q0, q1, q2⟩
end
end Go.Proofs.YtapkmoakbfpkeaaGreatDoor
