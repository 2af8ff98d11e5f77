/- Bytes handed over. -/
import Derived.Test.YtapkmoakbfpkeaaGreatDoorF0
namespace Go.Proofs.YtapkmoakbfpkeaaGreatDoor
open Go Go.RowKit Go.Proofs Go.Sort Go.ChangeShapes Go.WideShapes

set_option maxRecDepth 100000 in
/-- Bytes handed over. -/
theorem open_bytes {H : Type} {enc : TypeId × Value → H} {w : World} {base : Nat} {held : Bool} {r : Reach} {b0 : Nat} {v : Value} {d : DataW H} {p : List MemPlace} (hval : Value.okWide Tryz.prog w r b0 23 v) (h : DataW.Trod enc Tryz.prog w base (fun _ => true) held 23 v d p) :
    ∃ (a : Option Addr) (m c : Nat) (xs : List Int), v = .slice a m c ∧ (Sl.mk a m c xs).Ok w ∧ U8 xs ∧ m ≤ 9223372036854775807 := by
  obtain ⟨a0, len0, cap0, rfl⟩ := okWide_slice Tryz.underlying23 hval
  obtain ⟨fuel, hf⟩ := h
  have hf' : DataW.trod enc Tryz.prog w base (fun _ => true) held fuel 23 [.slice a0 len0 cap0] = some (d, p) := hf
  obtain ⟨s, hs, hok, hu, hl⟩ := open_sl hf'
  have hc : cap0 ≤ maxLen := by
    rcases open_ints Tryz.underlying23 Tryz.underlying5 (by kernel_rfl) hf' with ⟨h1, _⟩ | ⟨a, len, cap, zs, h1, _, _, hm, _⟩
    · simp only [List.cons.injEq, Value.slice.injEq, and_true] at h1
      rw [h1.2.2]; exact Nat.zero_le _
    · simp only [List.cons.injEq, Value.slice.injEq, and_true] at h1
      rw [h1.2.2]; exact hm
  obtain ⟨p1, m, c, xs⟩ := s
  have e : (Value.slice a0 len0 cap0) = .slice p1 m c := (List.cons.inj hs).1
  injection e with e1 e2 e3
  subst e1 e2 e3
  refine ⟨_, _, _, xs, rfl, hok, hu, ?_⟩
  have hl' : len0 ≤ cap0 := hl
  unfold maxLen at hc
  omega
end Go.Proofs.YtapkmoakbfpkeaaGreatDoor
