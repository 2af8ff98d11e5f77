/- FromUvarint, ReadVarintCode at varints of one and of two bytes. -/
import Derived.Test.YtapkmoakbfpkeaaGreatDoorA3
namespace Go.Proofs.YtapkmoakbfpkeaaGreatDoor
open Go Go.RowKit Go.Proofs

theorem or0 (x : Int) (h0 : 0 ≤ x) (hx : x < 18446744073709551616) : bits .or .u64 0 x = x := by
  rw [u64_or 0 x (by omega) (by omega) h0 hx]; simp; omega
theorem or2 (x y : Int) (h0 : 0 ≤ x) (hx : x < 128) (h1 : 0 ≤ y) (hy : y < 128) : bits .or .u64 x (y * 128) = x + y * 128 := by
  rw [u64_or x _ (by omega) (by omega) (by omega) (by omega)]
  obtain ⟨x, rfl⟩ := Int.eq_ofNat_of_zero_le h0
  obtain ⟨y, rfl⟩ := Int.eq_ofNat_of_zero_le h1
  have e : ((y : Int) * 128).toNat = y <<< 7 := by rw [Nat.shiftLeft_eq]; omega
  have := Nat.shiftLeft_add_eq_or_of_lt (i := 7) (b := x) (by omega) y
  rw [e, Int.toNat_natCast, Nat.or_comm, ← this, Nat.shiftLeft_eq]
  omega

set_option maxRecDepth 100000 in
theorem fromUvarint_1 (b o n c : Nat) (x : Int) (w : World) (h1 : 1 ≤ n) (_hn : n ≤ 140737488355328) (h0 : 0 ≤ x) (hx : x < 128) (hc : w.cell? ⟨b, o, none⟩ = some (.int .u8 x)) :
    Calls Tryz.prog 195 #[.slice (some ⟨b, o, none⟩) n c] w fun e w' => e = .returned (.tuple #[.int .u64 x, .int .i64 1, .nilIface]) ∧ w' = w := by
  have ho := or0 x h0 (by omega)
  have hO := Lib.hid ho; clear ho
  go_enter Tryz.func195, Tryz.ntmps195
  go_wp2
  refine wp_loop_rounds 1 ?_
  rw [rounds_succ]
  go_wp2
  all_goals (go_ret3; refine ⟨?_, rfl⟩)
  · simp [*]; decide
  · simp; exact hO.out

set_option maxRecDepth 100000 in
theorem fromUvarint_2 (b o n c : Nat) (x y : Int) (w : World) (h1 : 2 ≤ n) (_hn : n ≤ 140737488355328) (h0 : 128 ≤ x) (hx : x < 256) (hy0 : 1 ≤ y) (hy : y < 128)
    (hc : w.cell? ⟨b, o, none⟩ = some (.int .u8 x)) (hc1 : w.cell? ⟨b, o + 1, none⟩ = some (.int .u8 y)) :
    Calls Tryz.prog 195 #[.slice (some ⟨b, o, none⟩) n c] w fun e w' => e = .returned (.tuple #[.int .u64 (x - 128 + y * 128), .int .i64 2, .nilIface]) ∧ w' = w := by
  go_enter Tryz.func195, Tryz.ntmps195
  go_wp2
  refine wp_loop_rounds 2 ?_
  rw [rounds_succ]
  go_wp2
  rw [rounds_succ]
  go_wp2
  all_goals (go_ret3; refine ⟨?_, rfl⟩)
  all_goals simp
  have e : bits .and .u8 x 127 = x - 128 := by rw [show bits .and .u8 x 127 = x % 128 from bits_mask .u8 8 (by decide) wraps_u8 7 (by decide) x (by omega) (by omega)]; omega
  rw [e, IntKind.wrap_u64, IntKind.wrap_u64, show ((x - 128) % 18446744073709551616 % 18446744073709551616) = x - 128 by omega, or0 _ (by omega) (by omega), or2 _ _ (by omega) (by omega) (by omega) (by omega)]

set_option maxRecDepth 100000 in
theorem readVarintCode_1 (b o n c : Nat) (x : Int) (w : World) (h1 : 1 ≤ n) (hn : n ≤ 140737488355328) (h0 : 0 ≤ x) (hx : x < 128) (hc : w.cell? ⟨b, o, none⟩ = some (.int .u8 x)) :
    Calls Tryz.prog 150 #[.slice (some ⟨b, o, none⟩) n c] w fun e w' => e = .returned (.tuple #[.int .i64 x, .int .i64 1, .nilIface]) ∧ w' = w := by
  go_enter Tryz.func150, Tryz.ntmps150
  go_wp2_with (go_at_call 195; refine (fromUvarint_1 _ _ _ _ _ _ h1 hn h0 hx hc).mono ?_; rintro e w' ⟨rfl, rfl⟩)
  go_ret3
  exact ⟨rfl, rfl⟩

set_option maxRecDepth 100000 in
theorem readVarintCode_2 (b o n c : Nat) (x y : Int) (w : World) (h1 : 2 ≤ n) (hn : n ≤ 140737488355328) (h0 : 128 ≤ x) (hx : x < 256) (hy0 : 1 ≤ y) (hy : y < 128)
    (hc : w.cell? ⟨b, o, none⟩ = some (.int .u8 x)) (hc1 : w.cell? ⟨b, o + 1, none⟩ = some (.int .u8 y)) :
    Calls Tryz.prog 150 #[.slice (some ⟨b, o, none⟩) n c] w fun e w' => e = .returned (.tuple #[.int .i64 (x - 128 + y * 128), .int .i64 2, .nilIface]) ∧ w' = w := by
  go_enter Tryz.func150, Tryz.ntmps150
  go_wp2_with (go_at_call 195; refine (fromUvarint_2 _ _ _ _ _ _ _ h1 hn h0 hx hy0 hy hc hc1).mono ?_; rintro e w' ⟨rfl, rfl⟩)
  go_ret3
  exact ⟨rfl, rfl⟩
end Go.Proofs.YtapkmoakbfpkeaaGreatDoor
