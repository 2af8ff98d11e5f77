/- The texts of IP addresses: some string. -/
import Derived.Test.YtapkmoakbfpkeaaGreatDoorA7
import Derived.Lib.QuietBelow
namespace Go.Proofs.YtapkmoakbfpkeaaGreatDoor
open Go Go.RowKit Go.Proofs Go.Sort

set_option maxRecDepth 100000 in
theorem to4_4 (p : Option Addr) (c : Nat) (w : World) : Calls Tryz.prog 258 #[.slice p 4 c] w fun e w' => e = .returned (.slice p 4 c) ∧ w' = w := by
  go_enter Tryz.func258, Tryz.ntmps258
  go_wp2_with fail
  go_ret
  exact ⟨rfl, rfl⟩

/-- Itoa's text is one string, in whatever world lies behind w. -/
theorem itoaAll (x : Int) (w : World) (h0 : 0 ≤ x) (h : x < 65536) (hT : Tab w) : ∃ s : ByteArray, s.size ≤ 21 ∧
    ∀ d os, Calls Tryz.prog 267 #[.int .i64 x] (grow (redrawn w d) os) fun e w'' => e = .returned (.string s) ∧ ∃ p : Regrown, w'' = grow (redrawn w p.d) p.os := by
  refine ⟨⟨(Lib.itoa x).toArray⟩, ?_, fun d os => Calls.regrown_of ?_⟩
  · have := Lib.itoa_length_le x (by omega) (by omega); simp only [ByteArray.size, List.size_toArray]; omega
  · exact (Tryz.strconv_Itoa x (by omega) (by omega) _ (hT.below (below_regrown w d os))).mono fun e w' ⟨he, k, os', hw⟩ => ⟨he, by rw [hw]; exact grow_below _ k os'⟩

theorem wr64 (x : Int) (h : 0 ≤ x ∧ x < 256) : IntKind.i64.wrap x = x := IntWalk.i64_in _ (by omega)

set_option maxHeartbeats 800000 in
set_option maxRecDepth 100000 in
theorem ip4Str (b o c : Nat) (x0 x1 x2 x3 : Int) (w : World) (h0 : 0 ≤ x0 ∧ x0 < 256) (h1 : 0 ≤ x1 ∧ x1 < 256) (h2 : 0 ≤ x2 ∧ x2 < 256) (h3 : 0 ≤ x3 ∧ x3 < 256)
    (c0 : w.cell? ⟨b, o, none⟩ = some (.int .u8 x0)) (c1 : w.cell? ⟨b, o + 1, none⟩ = some (.int .u8 x1)) (c2 : w.cell? ⟨b, o + 2, none⟩ = some (.int .u8 x2)) (c3 : w.cell? ⟨b, o + 3, none⟩ = some (.int .u8 x3)) (hT : Tab w) :
    Calls Tryz.prog 259 #[.slice (some ⟨b, o, none⟩) 4 c] w (SomeStr w) := by
  obtain ⟨s0, z0, q0⟩ := itoaAll x0 (w.alloc (.cells #[.slice (some ⟨b, o, none⟩) 4 c] 254)) (by omega) (by omega) (hT.alloc _)
  obtain ⟨s1, z1, q1⟩ := itoaAll x1 (w.alloc (.cells #[.slice (some ⟨b, o, none⟩) 4 c] 254)) (by omega) (by omega) (hT.alloc _)
  obtain ⟨s2, z2, q2⟩ := itoaAll x2 (w.alloc (.cells #[.slice (some ⟨b, o, none⟩) 4 c] 254)) (by omega) (by omega) (hT.alloc _)
  obtain ⟨s3, z3, q3⟩ := itoaAll x3 (w.alloc (.cells #[.slice (some ⟨b, o, none⟩) 4 c] 254)) (by omega) (by omega) (hT.alloc _)
  have k0 := cell_regrown (cA c0 (.cells #[.slice (some ⟨b, o, none⟩) 4 c] 254))
  have k1 := cell_regrown (cA c1 (.cells #[.slice (some ⟨b, o, none⟩) 4 c] 254))
  have k2 := cell_regrown (cA c2 (.cells #[.slice (some ⟨b, o, none⟩) 4 c] 254))
  have k3 := cell_regrown (cA c3 (.cells #[.slice (some ⟨b, o, none⟩) 4 c] 254))
  have Q0 := Lib.hid q0
  have Q1 := Lib.hid q1
  have Q2 := Lib.hid q2
  have Q3 := Lib.hid q3
  have K := Lib.hid (And.intro k0 (And.intro k1 (And.intro k2 k3)))
  clear q0 q1 q2 q3 k0 k1 k2 k3
  go_enter Tryz.func259, Tryz.ntmps259
  go_wp2_with (go_at_call 258; refine (to4_4 _ _ _).mono ?_; rintro e w' ⟨rfl, rfl⟩)
  have e0 := wr64 x0 h0
  have e1 := wr64 x1 h1
  have e2 := wr64 x2 h2
  have e3 := wr64 x3 h3
  obtain ⟨k0, k1, k2, k3⟩ := K.out
  have n1 : ¬ 9223372036854775807 < s0.size + 1 := by omega
  have n2 : ¬ 9223372036854775807 < s0.size + 1 + s1.size := by omega
  have n3 : ¬ 9223372036854775807 < s0.size + 1 + s1.size + 1 := by omega
  have n4 : ¬ 9223372036854775807 < s0.size + 1 + s1.size + 1 + s2.size := by omega
  have n5 : ¬ 9223372036854775807 < s0.size + 1 + s1.size + 1 + s2.size + 1 := by omega
  have n6 : ¬ 9223372036854775807 < s0.size + 1 + s1.size + 1 + s2.size + 1 + s3.size := by omega
  refine wp_region_quiet_below (by kernel_rfl) (by kernel_rfl) ?_
  repeat (quiet_step (first | exact Q0.out _ _ | exact Q1.out _ _ | exact Q2.out _ _ | exact Q3.out _ _))
  refine wpQuiet_nil ?_
  intro _ hw'
  obtain ⟨⟨dq, osq⟩, hw''⟩ := hw'
  subst hw''
  go_wp2
  go_ret
  refine ⟨_, rfl, ?_, ((Below.refl _ _).alloc (Nat.le_refl _) _).trans ((below_regrown _ _ _).mono (by simp))⟩
  have d1 : (ByteArray.mk #[46]).size = 1 := rfl
  show (s0 ++ ⟨#[46]⟩ ++ s1 ++ ⟨#[46]⟩ ++ s2 ++ ⟨#[46]⟩ ++ s3 : ByteArray).size ≤ 1000
  simp only [ByteArray.size_append, d1]
  omega

set_option maxRecDepth 100000 in
/-- An IPv4 address's four bytes have a text. -/
theorem ip4BtS (b o c : Nat) (x0 x1 x2 x3 : Int) (w : World) (h0 : 0 ≤ x0 ∧ x0 < 256) (h1 : 0 ≤ x1 ∧ x1 < 256) (h2 : 0 ≤ x2 ∧ x2 < 256) (h3 : 0 ≤ x3 ∧ x3 < 256)
    (c0 : w.cell? ⟨b, o, none⟩ = some (.int .u8 x0)) (c1 : w.cell? ⟨b, o + 1, none⟩ = some (.int .u8 x1)) (c2 : w.cell? ⟨b, o + 2, none⟩ = some (.int .u8 x2)) (c3 : w.cell? ⟨b, o + 3, none⟩ = some (.int .u8 x3)) (hT : Tab w) :
    Calls Tryz.prog 216 #[.slice (some ⟨b, o, none⟩) 4 c] w (SomeStrNil w) := by
  have HC := Lib.hid (ip4Str b o c x0 x1 x2 x3 w h0 h1 h2 h3 c0 c1 c2 c3 hT)
  clear c0 c1 c2 c3 hT
  go_enter Tryz.func216, Tryz.ntmps216
  go_wp2_with fail
  refine HC.out.mono ?_
  rintro e w1 ⟨s, rfl, hs, hb⟩
  go_wp2_with fail
  go_ret2
  exact ⟨_, rfl, by omega, hb⟩
end Go.Proofs.YtapkmoakbfpkeaaGreatDoor
