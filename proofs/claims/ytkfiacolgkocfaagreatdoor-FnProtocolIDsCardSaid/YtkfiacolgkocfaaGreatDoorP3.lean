/- The law FnProtocolIDs. -/
import Derived.Test.YtkfiacolgkocfaaGreatDoorP2
namespace Go.Proofs.YtkfiacolgkocfaaGreatDoor
open Go Go.RowKit Go.Proofs Go.Sort
set_option maxHeartbeats 800000 in
set_option maxRecDepth 100000 in
theorem lawProtocols (f : List Int → List Int) (hf : ShaIs f) (p : Option Addr) (n c : Nat) (zs : List ByteArray) (w : World) (hz : StrIn w p n zs) (hn : n ≤ 9223372036854775807) (hT : Tab w) :
    Calls Tryz.prog 6 #[.slice p n c] w fun e w' => e = .returned (.bool true) ∧ Below w.heap.size w w' := by
  have awake : ∀ (wx : World), Below w.heap.size w wx → Calls Tryz.prog 10 #[] wx fun e w' => e = .returned (.bool true) ∧ Below w.heap.size w w' := fun wx hx => (addrAwake f hf wx (hT.below hx)).mono fun e w' ⟨he, hB⟩ => ⟨he, hx.trans (hB.mono hx.size)⟩
  have HW := Lib.hid awake
  have HZ := Lib.hid hz
  clear awake hz hf hT
  go_enter Tryz.func6, Tryz.ntmps6
  go_wp2_with fail
  refine (zzFits5 p n c zs w HZ.out hn).mono ?_
  rintro e w1 ⟨r, rfl, hB1⟩
  have H1 := Lib.hid hB1
  clear hB1
  cases r with
  | false =>
    go_wp2_with fail
    go_ret
    exact ⟨rfl, H1.out⟩
  | true =>
    by_cases h2 : 200 < n
    · have h21 : decide (200 < n) = true := by rw [decide_eq_true_iff]; exact h2
      have h22 : decide ((200 : Int) < (n : Int)) = true := by rw [decide_eq_true_iff]; omega
      go_wp2_with fail
      refine (HW.out _ H1.out).mono ?_
      rintro e w2 ⟨rfl, hB2⟩
      go_wp2_with fail
      go_ret
      exact ⟨rfl, hB2⟩
    · have h21 : decide (200 < n) = false := by rw [decide_eq_false_iff_not]; exact h2
      have h22 : decide ((200 : Int) < (n : Int)) = false := by rw [decide_eq_false_iff_not]; omega
      have hn2 : n ≤ 200 := by omega
      go_wp2_with fail
      go_loopg [15] n (fun gk iv wr => ∃ (i : Nat), gk = n - i ∧ i ≤ n ∧ iv = .int .i64 (i : Int) ∧ Hid (Below w.heap.size w wr))
      case atStart => exact ⟨0, rfl, Nat.zero_le _, rfl, H1.out⟩
      case round =>
        obtain ⟨i, rfl, hi, rfl, hI⟩ := hrel
        by_cases hin : i = n
        · subst hin
          have hl2 : decide (i < i) = false := by rw [decide_eq_false_iff_not]; omega
          have HS := Lib.hid (HZ.out.below hI.out)
          go_wp2_with fail
          refine (cloneStrs p i c zs wr HS.out hn2).mono ?_
          rintro e w2 ⟨p2, c2, rfl, hs2, hB2⟩
          have H2 := Lib.hid (And.intro hs2 (hI.out.trans (hB2.mono hI.out.size)))
          clear hs2 hB2
          go_wp2_with fail
          refine (protocolIDs p2 i c2 zs w2 H2.out.1 hn2).mono ?_
          rintro e w3 ⟨v3, rfl, hown3, hB3⟩
          rw [HZ.out.1] at hown3
          obtain ⟨p3, c3, rfl, _, hs3⟩ := own_str hown3
          have H3 := Lib.hid (And.intro hs3 (H2.out.2.trans (hB3.mono H2.out.2.size)))
          clear hown3 hs3 hB3
          go_wp2_with fail
          refine (equalStrs p3 p i c3 c zs w3 H3.out.1 (HZ.out.below H3.out.2) hn2).mono ?_
          rintro e w4 ⟨rfl, hB4⟩
          have H4 := Lib.hid (And.intro (H3.out.1.below hB4) (H3.out.2.trans (hB4.mono H3.out.2.size)))
          clear hB4
          go_wp2_with fail
          refine (protocolStrings p3 i c3 zs w4 H4.out.1 hn2).mono ?_
          rintro e w5 ⟨v5, rfl, hown5, hB5⟩
          rw [HZ.out.1] at hown5
          obtain ⟨p5, c5, rfl, _, hs5⟩ := own_str hown5
          have H5 := Lib.hid (And.intro hs5 (H4.out.2.trans (hB5.mono H4.out.2.size)))
          clear hown5 hs5 hB5
          go_wp2_with fail
          refine (equalStrs p5 p i c5 c zs w5 H5.out.1 (HZ.out.below H5.out.2) hn2).mono ?_
          rintro e w6 ⟨rfl, hB6⟩
          have H6 := Lib.hid (H5.out.2.trans (hB6.mono H5.out.2.size))
          clear hB6
          go_wp2_with fail
          refine (HW.out _ H6.out).mono ?_
          rintro e w7 ⟨rfl, hB7⟩
          go_wp2_with fail
          go_ret
          exact ⟨rfl, hB7⟩
        · have hl2 : decide (i < n) = true := by rw [decide_eq_true_iff]; omega
          obtain ⟨b, o, hp, hc⟩ := HZ.out.2 (by omega)
          have hc0 := cB hI.out (hc i (by omega))
          obtain ⟨z, hz⟩ : ∃ z, z = zs.getD i ByteArray.empty := ⟨_, rfl⟩
          rw [← hz] at hc0
          have hlt : i < n := by omega
          subst hp
          clear hz hc hin
          by_cases hs : 200 < z.size
          · have hs1 : decide (200 < z.size) = true := by rw [decide_eq_true_iff]; exact hs
            have hs2 : decide ((200 : Int) < (z.size : Int)) = true := by rw [decide_eq_true_iff]; omega
            go_wp2_with fail
            refine (HW.out _ hI.out).mono ?_
            rintro e w2 ⟨rfl, hB2⟩
            go_wp2_with fail
            go_ret
            exact ⟨rfl, hB2⟩
          · have hs1 : decide (200 < z.size) = false := by rw [decide_eq_false_iff_not]; exact hs
            have hs2 : decide ((200 : Int) < (z.size : Int)) = false := by rw [decide_eq_false_iff_not]; omega
            go_wp2_with fail
            go_roundg (n - i - 1)
            case measure => omega
            case rel => exact ⟨i + 1, by omega, by omega, by simp, hI.out⟩
end Go.Proofs.YtkfiacolgkocfaaGreatDoor
