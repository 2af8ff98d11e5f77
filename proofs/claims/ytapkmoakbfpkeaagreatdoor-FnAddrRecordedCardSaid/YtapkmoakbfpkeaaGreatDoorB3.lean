/- The text of an ID: p2pBtS: some string. -/
import Derived.Test.YtapkmoakbfpkeaaGreatDoorB2
namespace Go.Proofs.YtapkmoakbfpkeaaGreatDoor
open Go Go.RowKit Go.Proofs Go.Sort

set_option maxRecDepth 100000 in
theorem fast58E (b o n c : Nat) (xs : List Int) (w : World) (hx : xs.length = n) (hn : n ≤ 130) (hb : ∀ x ∈ xs, 0 ≤ x ∧ x < 256) (hc : ∀ i, i < n → w.cell? ⟨b, o + i, none⟩ = some (.int .u8 (xs.getD i 0))) :
    Calls Tryz.prog 147 #[.slice (some ⟨b, o, none⟩) n c] w (SomeStr w) := by
  have HC := Lib.hid hc
  have HX := Lib.hid hx
  clear hc hx
  go_enter Tryz.func147, Tryz.ntmps147
  go_wp2_with fail
  refine (btcAlphabet _).mono ?_
  rintro e w1 ⟨rfl, hA, hB⟩
  have HA := Lib.hid hA
  have HB := Lib.hid hB
  clear hA hB
  go_wp2_with fail
  refine (fast58 b o n c _ xs _ HX.out hn hb (fun i hi => cB HB.out (HC.out i hi)) HA.out).mono ?_
  rintro e w2 ⟨s, rfl, hs, hb2⟩
  go_wp2_with fail
  go_ret
  exact ⟨_, rfl, hs, HB.out.trans (hb2.mono HB.out.size)⟩

set_option maxRecDepth 100000 in
theorem encode58 (b o n c : Nat) (xs : List Int) (w : World) (hx : xs.length = n) (hn : n ≤ 130) (hb : ∀ x ∈ xs, 0 ≤ x ∧ x < 256) (hc : ∀ i, i < n → w.cell? ⟨b, o + i, none⟩ = some (.int .u8 (xs.getD i 0))) :
    Calls Tryz.prog 131 #[.slice (some ⟨b, o, none⟩) n c] w (SomeStr w) := by
  have H := Lib.hid (fast58E b o n c xs w hx hn hb hc)
  clear hc hx
  go_enter Tryz.func131, Tryz.ntmps131
  go_wp2_with fail
  refine H.out.mono ?_
  rintro e w2 ⟨s, rfl, hs, hb2⟩
  go_wp2_with fail
  go_ret
  exact ⟨_, rfl, hs, hb2⟩

set_option maxRecDepth 100000 in
theorem b58String (b o n c : Nat) (xs : List Int) (w : World) (hx : xs.length = n) (hn : n ≤ 130) (hb : ∀ x ∈ xs, 0 ≤ x ∧ x < 256) (hc : ∀ i, i < n → w.cell? ⟨b, o + i, none⟩ = some (.int .u8 (xs.getD i 0))) :
    Calls Tryz.prog 290 #[.slice (some ⟨b, o, none⟩) n c] w (SomeStr w) := by
  have H := Lib.hid (encode58 b o n c xs w hx hn hb hc)
  clear hc hx
  go_enter Tryz.func290, Tryz.ntmps290
  go_wp2_with fail
  refine H.out.mono ?_
  rintro e w2 ⟨s, rfl, hs, hb2⟩
  go_wp2_with fail
  go_ret
  exact ⟨_, rfl, hs, hb2⟩

set_option maxRecDepth 100000 in
/-- An ID's bytes have a text. -/
theorem p2pBtS (b o n c : Nat) (x y : Int) (xs : List Int) (w : World) (hx : xs.length = n) (hb : ∀ x ∈ xs, 0 ≤ x ∧ x < 256) (hnc : n ≤ c) (hc47 : c ≤ 9223372036854775807) (h0 : 0 ≤ x) (hx8 : x < 128) (hy0 : 0 ≤ y) (hy : y < 128) (hny : (n : Int) = y + 2)
    (hcx : xs.getD 0 0 = x) (hcy : xs.getD 1 0 = y) (hc : ∀ i, i < n → w.cell? ⟨b, o + i, none⟩ = some (.int .u8 (xs.getD i 0))) :
    Calls Tryz.prog 249 #[.slice (some ⟨b, o, none⟩) n c] w (SomeStrNil w) := by
  have hcast := CastMh b o n c x y w hnc hc47 h0 hx8 hy0 hy hny (by rw [← hcx]; exact hc 0 (by omega)) (by rw [← hcy]; exact hc 1 (by omega))
  have H := Lib.hid hcast
  have HC := Lib.hid hc
  have HX := Lib.hid hx
  have hn : n ≤ 130 := by omega
  clear hcast hc hx hcx hcy hny
  go_enter Tryz.func249, Tryz.ntmps249
  go_wp2_with fail
  refine H.out.mono ?_
  rintro e w1 ⟨rfl, hB⟩
  have HB := Lib.hid hB
  clear hB
  go_wp2_with fail
  refine (b58String b o n c xs _ HX.out hn hb (fun i hi => cB HB.out (HC.out i hi))).mono ?_
  rintro e w2 ⟨s, rfl, hs, hb2⟩
  go_wp2_with fail
  go_ret2
  exact ⟨_, rfl, by omega, HB.out.trans (hb2.mono HB.out.size)⟩
end Go.Proofs.YtapkmoakbfpkeaaGreatDoor
