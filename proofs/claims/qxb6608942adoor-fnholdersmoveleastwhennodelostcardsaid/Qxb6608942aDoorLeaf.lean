import Derived.Test.Qxb6608942aDoorRows
import Derived.WalkKit
import Derived.WalkSpells
import Derived.WalkLawsBesides
import Derived.Deep.QuietTactic
import Derived.BigQuiet
namespace Go.Proofs.Qxb6608942aDoor
open Go.RowKit

def keyLess (da ja db jb : Int) : Bool := if da = db then decide (ja < jb) else decide (da < db)

set_option maxHeartbeats 400000 in
theorem keyLess_any (da ja db jb : Int) (w : World) :
    Calls Tryd.prog 33 #[.int .u64 da, .int .i64 ja, .int .u64 db, .int .i64 jb] w fun e w' => e = .returned (.bool (keyLess da ja db jb)) ∧ w' = w := by
  by_cases h : da = db
  · have h1 : (da != db) = false := by simp [h]
    have h2 : keyLess da ja db jb = decide (ja < jb) := by simp [keyLess, h]
    rw [h2]; clear h2 h
    go_enter Tryd.func33, Tryd.ntmps33
    go_wp2
    go_ret
    exact ⟨rfl, rfl⟩
  · have h1 : (da != db) = true := by simp [h]
    have h2 : keyLess da ja db jb = decide (da < db) := by simp [keyLess, h]
    rw [h2]; clear h2 h
    go_enter Tryd.func33, Tryd.ntmps33
    go_wp2
    go_ret
    exact ⟨rfl, rfl⟩

end Go.Proofs.Qxb6608942aDoor
