/- The reference's AddrSplit. -/
import Derived.Test.YtkfiacolgkocfaaGreatDoorE5
namespace Go.Proofs.YtkfiacolgkocfaaGreatDoor
open Go Go.RowKit Go.Proofs Go.Sort
/-- 'two byte slices come back, each of the call's own memory'. -/
def TwoBytes (xs ys : List Int) (w : World) (e : Ending) (w' : World) : Prop :=
  ∃ v1 v2, e = .returned (.tuple #[v1, v2]) ∧ w'.ownsRow w.heap.size 5 1 v1 xs.length (xs.map (Value.int .u8)) ∧ w'.ownsRow w.heap.size 5 1 v2 ys.length (ys.map (Value.int .u8)) ∧ Below w.heap.size w w'
theorem HAt.left {w : World} {b o : Nat} {l l' : List HIn} (h : HAt w b o (l ++ l')) : HAt w b o l := fun i x hx => h i x (by
  have hi : i < l.length := (List.getElem?_eq_some_iff.1 hx).1
  rw [List.getElem?_append_left hi]
  exact hx)
set_option maxRecDepth 100000 in
theorem specSplit6 (f : List Int → List Int) (hf : ShaIs f) (init : List HIn) (K : Int) (p : Option Addr) (m cs : Nat) (xs : List Int) (n : Nat) (hn : init.length = n) (hn1 : n ≤ 99) (h6 : K % 8 = 6) (b o c : Nat) (hc : n + 1 ≤ c) (w : World) (hb : HAt w b o (init ++ [⟨K, ⟨p, m, cs, xs⟩⟩])) :
    Calls Tryz.prog 15 #[.slice (some ⟨b, o, none⟩) (n + 1) c] w (TwoBytes (addrB (init.map (hopOf f))) (idB f xs) w) := by
  have HB := Lib.hid (And.intro hb (And.intro hf hn))
  obtain ⟨hc0, hc1, hok⟩ := hb n ⟨K, ⟨p, m, cs, xs⟩⟩ (by rw [← hn]; simp)
  replace hc0 : w.cell? ⟨b, o + n * 2, none⟩ = some (.int .u8 K) := hc0
  replace hc1 : w.cell? ⟨b, o + n * 2 + 1, none⟩ = some (.slice p m cs) := hc1
  have HO := Lib.hid hok
  have hK0 : 0 ≤ K := hok.1.1
  have hl1 : decide ((n : Int) < 0) = false := by rw [decide_eq_false_iff_not]; omega
  have h61 : (K % 8 != 6) = false := by rw [bne_eq_false_iff_eq]; exact h6
  have hcc : (n : Int) ≤ c := by omega
  clear hb hf hok h6 hn
  go_enter Tryz.func15, Tryz.ntmps15
  go_wp2_with fail
  have hAt : HAt w b o init := HB.out.1.left
  have HA := Lib.hid hAt
  clear hAt
  go_region_held (fun w' => w'.cell? ⟨b, o + n * 2 + 1, none⟩ = some (.slice p m cs))
    (first | exact hc1 | exact cB hBs.out.2 hc1 | exact cB hB2.out.2 (cB hBs.out.2 hc1))
    (first
      | (go_at_call 11; refine (addrOfB f HB.out.2.1 init n HB.out.2.2 (by omega) b o c _ (HA.out.below ((Below.refl _ _).drew))).mono ?_; rintro e w1 ⟨v1, rfl, hown, hB⟩; have hBs := Lib.hid (And.intro hown (show Below w.heap.size w w1 from ((Below.refl _ w).drew).trans hB)); clear hown hB)
      | (go_at_call 19; refine (addrID f HB.out.2.1 p m cs xs _ (HO.out.2.1.below hBs.out.2) HO.out.2.2.1 (by have := HO.out.2.2.2; simp at this; omega)).mono ?_; rintro e w2 ⟨v2, rfl, hown, hB⟩; have hB2 := Lib.hid (And.intro hown hB); clear hown hB))
  all_goals
    go_wp2_with fail
    go_ret2
    exact ⟨v1, v2, rfl, ownsRow_below hBs.out.1 hB2.out.2, hB2.out.1.mono hBs.out.2.size, hBs.out.2.trans (hB2.out.2.mono hBs.out.2.size)⟩
/-- 'the bytes, and nothing'. -/
def BytesNil (xs : List Int) (w : World) (e : Ending) (w' : World) : Prop :=
  ∃ v1, e = .returned (.tuple #[v1, .slice none 0 0]) ∧ w'.ownsRow w.heap.size 5 1 v1 xs.length (xs.map (Value.int .u8)) ∧ Below w.heap.size w w'
set_option maxRecDepth 100000 in
theorem specSplitN (f : List Int → List Int) (hf : ShaIs f) (init : List HIn) (K : Int) (s : Sl) (n : Nat) (hn : init.length = n) (hn1 : n ≤ 99) (h6 : K % 8 ≠ 6) (b o c : Nat) (w : World) (hb : HAt w b o (init ++ [⟨K, s⟩])) :
    Calls Tryz.prog 15 #[.slice (some ⟨b, o, none⟩) (n + 1) c] w (BytesNil (addrB ((init ++ [(⟨K, s⟩ : HIn)]).map (hopOf f))) w) := by
  have HB := Lib.hid (And.intro hb (And.intro hf hn))
  obtain ⟨hc0, hc1, hok⟩ := hb n ⟨K, s⟩ (by rw [← hn]; simp)
  replace hc0 : w.cell? ⟨b, o + n * 2, none⟩ = some (.int .u8 K) := hc0
  have hK0 : 0 ≤ K := hok.1.1
  have hl1 : decide ((n : Int) < 0) = false := by rw [decide_eq_false_iff_not]; omega
  have h61 : (K % 8 != 6) = true := by rw [bne_iff_ne]; exact h6
  clear hb hf hok h6 hn hc1
  go_enter Tryz.func15, Tryz.ntmps15
  go_wp2_with fail
  refine (addrOfB f HB.out.2.1 (init ++ [(⟨K, s⟩ : HIn)]) (n + 1) (by rw [List.length_append, HB.out.2.2]; rfl) (by omega) b o c _ HB.out.1).mono ?_
  rintro e w1 ⟨v1, rfl, hown, hB⟩
  have hBs := Lib.hid (And.intro hown hB)
  clear hown hB
  go_wp2_with fail
  go_ret2
  exact ⟨v1, rfl, hBs.out.1, hBs.out.2⟩
end Go.Proofs.YtkfiacolgkocfaaGreatDoor
