import Derived.Test.Qxb6603040aModsRows
import Derived.WalkKit
import Derived.WalkSpells
import Derived.WalkLawsBesides
import Derived.ProofKit
import Derived.RegionTactic
namespace Go.Proofs.Qxb6603040aMods
open Go.RowKit

set_option maxHeartbeats 1000000 in
theorem law (a0 : Bool) (w : World) :
    Calls Trym.prog 3 #[.bool a0] w fun e w' => e = .returned (.bool true) ∧ Grown w w' := by
  cases a0
  · go_enter Trym.func3, Trym.ntmps3
    go_wp2
    go_region
    all_goals go_wp2
    all_goals go_ret
    all_goals exact ⟨rfl, by repeat (first | exact Grown.refl _ | apply Grown.drew | apply Grown.alloc)⟩
  · go_enter Trym.func3, Trym.ntmps3
    go_wp2
    go_region
    all_goals go_wp2
    all_goals go_ret
    all_goals exact ⟨rfl, by repeat (first | exact Grown.refl _ | apply Grown.drew | apply Grown.alloc)⟩
end Go.Proofs.Qxb6603040aMods
