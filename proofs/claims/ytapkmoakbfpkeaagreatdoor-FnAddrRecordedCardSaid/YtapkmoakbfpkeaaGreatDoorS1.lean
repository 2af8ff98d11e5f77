/- ShaSum: shaTurn, shaKeys. -/
import Derived.Test.YtapkmoakbfpkeaaGreatDoorA1
import Derived.Test.YtapkmoakbfpkeaaGreatDoorQ1
import Derived.StillTailTactics
import Derived.Deep.OwnRows
import Derived.Deep.WholeRow
import Derived.IntWalk
import Derived.Below
namespace Go.Proofs.YtapkmoakbfpkeaaGreatDoor
open Go Go.RowKit Go.Proofs Go.Sort

/-- A word whose bits are turned to the right. -/
def turnI (x n : Int) : Int := bits .or .u32 (x / 2 ^ n.toNat) (x * 2 ^ (32 - n).toNat % 4294967296)
set_option maxRecDepth 100000 in
theorem shaTurn (x n : Int) (h0 : 0 ≤ n) (h1 : n ≤ 32) (w : World) : Calls Tryz.prog 111 #[.int .u32 x, .int .i64 n] w fun e w' => e = .returned (.int .u32 (turnI x n)) ∧ ∃ m, w' = w.drewN m := by
  have hn1 : (32 - n : Int) ≥ 0 := by omega
  have hw : IntKind.i64.wrap (32 - n) = 32 - n := IntWalk.i64_in _ (by omega)
  go_enter Tryz.func111, Tryz.ntmps111
  go_wp2_with fail
  go_quiet (fail)
  go_wp2_with fail
  go_ret
  exact ⟨rfl, nq, rfl⟩
end Go.Proofs.YtapkmoakbfpkeaaGreatDoor
