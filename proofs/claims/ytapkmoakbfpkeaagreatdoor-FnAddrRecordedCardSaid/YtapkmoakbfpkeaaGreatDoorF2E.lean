/- The error that peer.go names, out of the listed variables. -/
import Derived.Test.YtapkmoakbfpkeaaGreatDoorZC
import Derived.Test.YtapkmoakbfpkeaaGreatDoorF0
import Derived.Test.YtapkmoakbfpkeaaGreatDoorS5
import Derived.ProofKit
namespace Go.Proofs.YtapkmoakbfpkeaaGreatDoor
open Go Go.RowKit Go.Proofs Go.Sort Go.ChangeShapes Go.WideShapes

theorem errStar : "*" ++ "errors.errorString" = "*errors.errorString" := by decide
theorem errRow (u : TypeId) (h : Tryz.prog.typeName? 3 u = some "*errors.errorString") : u = 215 :=
  typeName_ptr_named (nm := "errors.errorString") (by rw [errStar]; kernel_rfl) (by kernel_rfl) (by decide) u (by rw [errStar]; exact h)
theorem gErr : Tryz.prog.globalNamed "pub-symmory/pub/libp2p/core/peer.ErrInvalidAddr" = some 0 := by kernel_rfl
theorem errV_of {W : World} {text : List UInt8} {r : List (String × DataW Unit)} (h : laidMet Tryz.prog (("pub-symmory/pub/libp2p/core/peer.ErrInvalidAddr", .iface "*errors.errorString" (.ptr (.agg [.lit (.string text)]))) :: r) W) : ErrV W := by
  obtain ⟨a, s, hv, _⟩ := laid_sentinel h gErr (by kernel_rfl) Tryz.underlying81 errRow Tryz.underlying215 Tryz.underlying217 rfl rfl Tryz.underlying9 (by kernel_rfl) (by kernel_rfl)
  exact ⟨_, a, by simpa using World.var?_cell gErr hv 0⟩
end Go.Proofs.YtapkmoakbfpkeaaGreatDoor
