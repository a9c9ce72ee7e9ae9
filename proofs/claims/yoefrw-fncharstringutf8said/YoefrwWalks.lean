import Derived.Test.YoefrwRows
import Derived.Test.YoefrwPlain
import Derived.WalkKit
import Derived.WalkLawsBesides
import Derived.ProofKit
namespace Go.Proofs.Yoefrw
open Go.ChangeShapes Go.WideShapes Go.ChangeAt Go.RowKit
set_option maxHeartbeats 400000 in
/-- (*Char).String: the model's own encoding of the rune; the world stands. -/
theorem string_any (r : Int) (b : Nat) (w : World) (hc : w.cell? ⟨b, 0, none⟩ = some (.int .i32 r)) :
    Calls Efrg.prog 6 #[.pointer (some ⟨b, 0, none⟩)] w fun e w' => e = .returned (.string (Utf8.encode r)) ∧ w' = w := by
  go_enter Efrg.func6, Efrg.ntmps6
  go_wp2
  go_ret
  exact ⟨rfl, rfl⟩
end Go.Proofs.Yoefrw
