/- ip6BtS: some string. -/
import Derived.Test.YtapkmoakbfpkeaaGreatDoorA11
namespace Go.Proofs.YtapkmoakbfpkeaaGreatDoor
open Go Go.RowKit Go.Proofs Go.Sort

set_option maxRecDepth 100000 in
/-- An IPv6 address's sixteen bytes have a text. -/
theorem ip6BtS (b o c : Nat) (xs : List Int) (w : World) (hx : xs.length = 16) (hc16 : 16 ≤ c) (hb : ∀ x ∈ xs, 0 ≤ x ∧ x < 256) (hc : ∀ i, i < 16 → w.cell? ⟨b, o + i, none⟩ = some (.int .u8 (xs.getD i 0))) (hT : Tab w) :
    Calls Tryz.prog 223 #[.slice (some ⟨b, o, none⟩) 16 c] w (SomeStrNil w) := by
  have h4 := to4_16 b o c xs w hx hc16 hb hc
  cases hi : is4 xs
  · rw [hi] at h4
    have hS := ip6Str b o c xs w hx hc16 hb hc hi
    have H4 := Lib.hid h4
    have HS := Lib.hid hS
    clear h4 hS hc hT hi
    go_enter Tryz.func223, Tryz.ntmps223
    go_wp2_with fail
    refine H4.out.mono ?_
    rintro e w' ⟨rfl, rfl⟩
    unfold to4V
    go_wp2_with fail
    refine HS.out.mono ?_
    rintro e w1 ⟨s, rfl, hs, hb1⟩
    go_wp2_with fail
    go_ret2
    exact ⟨_, rfl, by omega, hb1⟩
  · rw [hi] at h4
    have hg := fun i (h : i < 16) => getD_bd hb i (by omega)
    have hS := ip4Str b (o + 12) (c - 12) _ _ _ _ w (hg 12 (by omega)) (hg 13 (by omega)) (hg 14 (by omega)) (hg 15 (by omega)) (hc 12 (by omega)) (by rw [Nat.add_assoc]; exact hc 13 (by omega)) (by rw [Nat.add_assoc]; exact hc 14 (by omega)) (by rw [Nat.add_assoc]; exact hc 15 (by omega)) hT
    have H4 := Lib.hid h4
    have HS := Lib.hid hS
    clear h4 hS hc hT hi hg
    go_enter Tryz.func223, Tryz.ntmps223
    go_wp2_with fail
    refine H4.out.mono ?_
    rintro e w' ⟨rfl, rfl⟩
    unfold to4V
    go_wp2_with fail
    refine HS.out.mono ?_
    rintro e w1 ⟨s, rfl, hs, hb1⟩
    go_wp2_with fail
    go_ret2
    exact ⟨_, rfl, by simp only [ByteArray.size_append]; have e1 : (ByteArray.mk #[58, 58, 102, 102, 102, 102, 58]).size = 7 := rfl; omega, hb1⟩
end Go.Proofs.YtapkmoakbfpkeaaGreatDoor
