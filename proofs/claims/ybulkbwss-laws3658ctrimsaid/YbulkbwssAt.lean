import Derived.Test.YbulkbwssRows
import Derived.WalkKit
import Derived.WalkSpells
import Derived.WalkLawsBesides
import Derived.Deep.QuietTactic
import Derived.BigQuiet
import Derived.RegionTactic
namespace Go.Proofs.Ybulkbwss
open Go.RowKit

set_option maxHeartbeats 400000 in
theorem at_any (b : Nat) (o s : Int) (w : World) (h3 : w.cell? ⟨b, 3, none⟩ = some (.int .i64 o)) (h4 : w.cell? ⟨b, 4, none⟩ = some (.int .i64 s))
    (ho : -1000000000 ≤ o ∧ o ≤ 1000000000) (hs : -1000000000 ≤ s ∧ s ≤ 1000000000) :
    Calls Yba.prog 5 #[.pointer (some ⟨b, 0, none⟩)] w fun e w' => e = .returned (.int .i64 (o + s)) ∧ ∃ n, w' = w.drewN n := by
  go_enter Yba.func5, Yba.ntmps5
  go_wp2
  go_quiet (fail)
  go_wp2
  go_ret
  exact ⟨rfl, _, rfl⟩

end Go.Proofs.Ybulkbwss
