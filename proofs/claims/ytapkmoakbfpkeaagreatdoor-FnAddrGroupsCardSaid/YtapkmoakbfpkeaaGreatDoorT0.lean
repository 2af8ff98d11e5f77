/- A tie, its list in another order. -/
import Derived.Test.YtapkmoakbfpkeaaGreatDoorGreat
import Derived.LaidSub
import Derived.Deep.Slices
namespace Go.Proofs.YtapkmoakbfpkeaaGreatDoor
open Go

theorem laidVars_perm {P : Program} {w : World} {l l' : List (String × DataW Unit)} (h : l.Perm l') : ∀ {ps : List MemPlace}, DataW.LaidVars P w l ps → ∃ ps', DataW.LaidVars P w l' ps' ∧ ps.Perm ps' := by
  induction h with
  | nil => exact fun {ps} h => ⟨ps, h, List.Perm.refl _⟩
  | cons x _ ih =>
    obtain ⟨n, d⟩ := x
    rintro ps ⟨g, t, cs, fuel, p, q, e1, e2, e3, e4, hr, rfl⟩
    obtain ⟨q', hq, hp⟩ := ih hr
    exact ⟨_, ⟨g, t, cs, fuel, p, q', e1, e2, e3, e4, hq, rfl⟩, List.Perm.append_left _ hp⟩
  | swap x y l =>
    obtain ⟨n, d⟩ := x
    obtain ⟨m, c⟩ := y
    rintro ps ⟨g, t, cs, fuel, p, q, e1, e2, e3, e4, ⟨g', t', cs', fuel', p', q', f1, f2, f3, f4, hr, rfl⟩, rfl⟩
    refine ⟨_, ⟨g', t', cs', fuel', p', _, f1, f2, f3, f4, ⟨g, t, cs, fuel, p, q', e1, e2, e3, e4, hr, rfl⟩, rfl⟩, ?_⟩
    rw [← List.append_assoc, ← List.append_assoc (MemPlace.row ⟨g', 0, none⟩ cs'.size ++ p')]
    exact List.Perm.append_right _ List.perm_append_comm
  | trans _ _ ih1 ih2 =>
    intro ps h
    obtain ⟨ps1, h1, p1⟩ := ih1 h
    obtain ⟨ps2, h2, p2⟩ := ih2 h1
    exact ⟨ps2, h2, p1.trans p2⟩
theorem laidMet_perm {P : Program} {w : World} {l l' : List (String × DataW Unit)} (hp : l.Perm l') (h : laidMet P l w) : laidMet P l' w := by
  obtain ⟨ps, hl, hnd, hrows⟩ := h
  obtain ⟨ps', hl', hs⟩ := laidVars_perm hp hl
  exact ⟨ps', hl', hs.nodup_iff.1 hnd, fun b off hb => hrows b off (hs.mem_iff.2 hb)⟩
theorem laidMetH_perm {P : Program} {w : World} {l l' : List (String × DataW Unit)} (hp : l.Perm l') (h : laidMetH P l w) : laidMetH P l' w := by
  obtain ⟨h1, h2⟩ := laidMetH_iff.1 h
  exact laidMetH_iff.2 ⟨laidMet_perm (hp.filter _) h1, fun x hx => h2 x ((hp.filter _).mem_iff.2 hx)⟩
theorem tie_perm {P : Program} {l l' : List (String × DataW Unit)} {k k' : List LaidKind} {tests : Bool} (h : P.laidByTextLater l k tests) (is : List Nat) (hi : is.Perm (List.range l.length)) (hl : l' = is.map fun i => l.getD i ("", .nil))
    (hk : l'.map (fun x => P.kindOfLater x.1) = k'.map some) : P.laidByTextLater l' k' tests := by
  have hp : l.Perm l' := by
    have e : l = (List.range l.length).map fun i => l.getD i ("", .nil) := by
      have h := Go.Deep.map_by_index l ("", .nil) id
      simpa using h
    rw [hl]
    conv => lhs; rw [e]
    exact (hi.symm).map _
  obtain ⟨⟨h1, h2, h3, _⟩, g, code, stored, hg, hc, hs, hall, hr⟩ := h
  refine ⟨⟨h1, h2, h3, hk⟩, g, code, stored, hg, hc, hs, List.all_eq_true.2 fun x hx => List.all_eq_true.1 hall x (hp.mem_iff.2 hx), fun os tape hos => ?_⟩
  obtain ⟨n, v, w', hn, hm⟩ := hr os tape hos
  exact ⟨n, v, w', hn, laidMetH_perm hp hm⟩
end Go.Proofs.YtapkmoakbfpkeaaGreatDoor
