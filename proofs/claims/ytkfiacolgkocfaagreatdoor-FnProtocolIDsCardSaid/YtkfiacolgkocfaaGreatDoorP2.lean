/- The law FnProtocolIDs. -/
import Derived.Test.YtkfiacolgkocfaaGreatDoorP1
import Derived.Test.YtkfiacolgkocfaaGreatDoorE5
namespace Go.Proofs.YtkfiacolgkocfaaGreatDoor
open Go Go.RowKit Go.Proofs Go.Sort
/-- 'these strings come back'. -/
def SameStrs (n : Nat) (zs : List ByteArray) (w : World) (e : Ending) (w' : World) : Prop := ∃ p c, e = .returned (.slice p n c) ∧ StrIn w' p n zs ∧ Below w.heap.size w w'
theorem cloneStrs (p : Option Addr) (n c : Nat) (zs : List ByteArray) (w : World) (hz : StrIn w p n zs) (hn : n ≤ 200) : Calls Tryz.prog 22 #[.slice p n c] w (SameStrs n zs w) := by
  by_cases h0 : n = 0
  · subst h0
    have hzs : zs = [] := List.eq_nil_of_length_eq_zero hz.1
    subst hzs
    cases p with
    | none =>
      refine (Tryz.slices_Clone_string_nil 0 c w).mono ?_
      rintro e w' ⟨rfl, rfl⟩
      exact ⟨none, 0, rfl, hz, Below.refl _ _⟩
    | some a =>
      refine (Tryz.slices_Clone_string_zero a c w).mono ?_
      rintro e w' ⟨v', rfl, hown, _, hB⟩
      obtain ⟨p', c', rfl, _, hs⟩ := own_str (zs := []) hown
      exact ⟨p', c', rfl, hs, hB⟩
  · obtain ⟨b, o, rfl, hc⟩ := hz.2 (by omega)
    refine (Tryz.slices_Clone_string b o n c zs w (by rw [hz.1]; exact Nat.le_refl _) (by omega) (fun j hj => hc j (by rw [← hz.1]; exact hj))).mono ?_
    rintro e w' ⟨v', rfl, hown, _, hB⟩
    rw [List.take_of_length_le (by rw [hz.1]; exact Nat.le_refl _)] at hown
    obtain ⟨p', c', rfl, _, hs⟩ := own_str hown
    exact ⟨p', c', rfl, hs, hB⟩
theorem equalStrs (p1 p2 : Option Addr) (n c1 c2 : Nat) (zs : List ByteArray) (w : World) (h1 : StrIn w p1 n zs) (h2 : StrIn w p2 n zs) (hn : n ≤ 200) : Calls Tryz.prog 23 #[.slice p1 n c1, .slice p2 n c2] w fun e w' => e = .returned (.bool true) ∧ Below w.heap.size w w' := by
  by_cases h0 : n = 0
  · subst h0
    exact (Tryz.slices_Equal_string_empty p1 p2 c1 0 c2 w (by omega)).mono fun e w' ⟨he, hw⟩ => by subst he hw; exact ⟨rfl, Below.refl _ _⟩
  · obtain ⟨b1, o1, rfl, hc1⟩ := h1.2 (by omega)
    obtain ⟨b2, o2, rfl, hc2⟩ := h2.2 (by omega)
    refine (Tryz.slices_Equal_string b1 o1 n c1 b2 o2 n c2 zs zs w (by rw [h1.1]; exact Nat.le_refl _) (by rw [h1.1]; exact Nat.le_refl _) (by omega) (by omega) (fun j hj => hc1 j (by rw [← h1.1]; exact hj)) (fun j hj => hc2 j (by rw [← h1.1]; exact hj))).mono fun e w' ⟨he, q, hw⟩ => ?_
    subst he hw
    exact ⟨by simp, below_drewN (Below.refl _ _) q⟩
set_option maxRecDepth 100000 in
theorem zzFits5 (p : Option Addr) (n c : Nat) (zs : List ByteArray) (w : World) (hz : StrIn w p n zs) (hn : n ≤ 9223372036854775807) : Calls Tryz.prog 20 #[.slice p n c] w (SomeBool w) := by
  have HZ := Lib.hid hz
  clear hz
  go_enter Tryz.func20, Tryz.ntmps20
  go_wp2_with fail
  · go_ret
    exact ⟨_, rfl, Below.refl _ _⟩
  · go_loopg [10] n (fun gk iv wr => ∃ (i : Nat), gk = n - i ∧ i ≤ n ∧ iv = .int .i64 (i : Int) ∧ Hid (Below w.heap.size w wr))
    case atStart => exact ⟨0, rfl, Nat.zero_le _, rfl, Below.refl _ _⟩
    case round =>
      obtain ⟨i, rfl, hi, rfl, hI⟩ := hrel
      by_cases hin : i = n
      · subst hin
        have hl2 : decide (i < i) = false := by rw [decide_eq_false_iff_not]; omega
        go_wp2_with fail
        all_goals
          go_ret
          exact ⟨_, rfl, hI.out⟩
      · have hl2 : decide (i < n) = true := by rw [decide_eq_true_iff]; omega
        obtain ⟨b, o, hp, hc⟩ := HZ.out.2 (by omega)
        have hc0 := cB hI.out (hc i (by omega))
        obtain ⟨z, hz⟩ : ∃ z, z = zs.getD i ByteArray.empty := ⟨_, rfl⟩
        rw [← hz] at hc0
        have hlt : i < n := by omega
        subst hp
        clear hz hc hin
        by_cases hs : 2147483647 < z.size
        · have hs1 : decide (2147483647 < z.size) = true := by rw [decide_eq_true_iff]; exact hs
          have hs2 : decide ((2147483647 : Int) < (z.size : Int)) = true := by rw [decide_eq_true_iff]; omega
          go_wp2_with fail
          go_ret
          exact ⟨_, rfl, hI.out⟩
        · have hs1 : decide (2147483647 < z.size) = false := by rw [decide_eq_false_iff_not]; exact hs
          have hs2 : decide ((2147483647 : Int) < (z.size : Int)) = false := by rw [decide_eq_false_iff_not]; omega
          go_wp2_with fail
          go_roundg (n - i - 1)
          case measure => omega
          case rel => exact ⟨i + 1, by omega, by omega, by simp, hI.out⟩
set_option maxRecDepth 100000 in
theorem protocolIDs (p : Option Addr) (n c : Nat) (zs : List ByteArray) (w : World) (hz : StrIn w p n zs) (hn : n ≤ 200) : Calls Tryz.prog 21 #[.slice p n c] w (NewStrs 9 zs w) := by
  have HZ := Lib.hid hz
  clear hz
  go_enter Tryz.func21, Tryz.ntmps21
  go_wp2_with fail
  refine (cloneStrs p n c zs w HZ.out hn).mono ?_
  rintro e w1 ⟨p1, c1, rfl, hs1, hB1⟩
  have H1 := Lib.hid (And.intro hs1 hB1)
  clear hs1 hB1
  go_wp2_with fail
  refine (convFrom p1 n c1 zs w1 H1.out.1 hn).mono ?_
  rintro e w2 ⟨v2, rfl, hown2, hB2⟩
  rw [HZ.out.1] at hown2
  obtain ⟨p2, c2, rfl, _, hs2⟩ := own_str hown2
  have H2 := Lib.hid (And.intro hs2 (H1.out.2.trans (hB2.mono H1.out.2.size)))
  clear hown2 hs2 hB2
  go_wp2_with fail
  go_loopg [3, 10] n (fun gk sv iv wr => ∃ (i : Nat), gk = n - i ∧ i ≤ n ∧ iv = .int .i64 (i : Int) ∧ Hid (wr.ownsRow w2.heap.size 9 1 sv i ((zs.take i).map Value.string) ∧ Below w2.heap.size w2 wr))
  case atStart => exact ⟨0, rfl, Nat.zero_le _, rfl, World.ownsRow_nil _ _ _ _, Below.refl _ _⟩
  case round =>
    obtain ⟨i, rfl, hi, rfl, hI⟩ := hrel
    by_cases hin : i = n
    · subst hin
      have hl2 : decide (i < i) = false := by rw [decide_eq_false_iff_not]; omega
      have HT := Lib.hid (show zs.take i = zs by rw [List.take_of_length_le (by rw [HZ.out.1]; omega)])
      have hl3 : decide (i < i) = false := by rw [decide_eq_false_iff_not]; omega
      go_wp2_with fail
      go_ret
      exact ⟨_, rfl, by rw [HZ.out.1]; have h := hI.out.1; rw [HT.out] at h; exact h.mono H2.out.2.size, H2.out.2.trans (hI.out.2.mono H2.out.2.size)⟩
    · have hl2 : decide (i < n) = true := by rw [decide_eq_true_iff]; omega
      obtain ⟨b, o, hp, hc⟩ := H2.out.1.2 (by omega)
      have hc0 := cB hI.out.2 (hc i (by omega))
      obtain ⟨z, hz⟩ : ∃ z, z = zs.getD i ByteArray.empty := ⟨_, rfl⟩
      rw [← hz] at hc0
      have hts : zs.take (i + 1) = zs.take i ++ [z] := by
        have hil : i < zs.length := by rw [HZ.out.1]; omega
        rw [List.take_succ_eq_append_getElem hil, hz]
        simp [List.getD, hil]
      have HTS := Lib.hid hts
      have hlt : i < n := by omega
      subst hp
      clear hz hts hc hin
      go_wp2_with (at_builtin; refine wpAppZ rfl _ _ 42 9 Tryz.underlying42 info9 rfl w2.heap.size _ i (zs.take i) rfl (hI.out.1.alloc _) z wr.heap.size 1 rfl (one_str _ _ _) (by omega) (by have := hI.out.2.size; simp; omega) ?_)
      intro v' w' hown hgrow
      have hB' := grown_below (hI.out.2.alloc hI.out.2.size _) (hI.out.1.alloc _) hgrow (by have := hI.out.2.size; simp; omega)
      replace hown : w'.ownsRow w2.heap.size 9 1 v' (i + 1) ((zs.take (i + 1)).map Value.string) := by rw [HTS.out]; simpa using hown
      have HO := Lib.hid (And.intro hown hB')
      clear hown hgrow hB' hc0
      go_wp2_with fail
      go_roundg (n - i - 1)
      case measure => omega
      case rel => exact ⟨i + 1, by omega, by omega, by simp, HO.out⟩
end Go.Proofs.YtkfiacolgkocfaaGreatDoor
