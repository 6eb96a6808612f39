import Derived.Test.Qxb6608942aDoorBase
import Derived.Test.Qxb6608942aDoorTie
import Derived.Test.Qxb6608942aDoorCards
import Derived.WalkKit
import Derived.ProofKit
import Derived.OpenShut
import Derived.ShutString
import Derived.ChangeOld
import Derived.LaidMore
import Derived.Stop.Joined
import Derived.SevenTiedAt
import Derived.Deep.Grids
namespace Go.Proofs.Qxb6608942aDoor
open Go.ChangeShapes Go.WideShapes Go.ChangeAt Go.WideMaps Go.WideElems Go.RowKit

theorem own : ownKnob Tryd.prog.godebug = none := by kernel_rfl
theorem laidOut : laidOutB Tryd.prog = true := by kernel_rfl

/-- The door's own heap meets the condition. -/
theorem door_met (os : Os) (args : Array Value) : laidMetH Tryd.prog Rows.fnOrderMeetsNodesByClockwiseDistanceRow.laid ((World.doorLaid Tryd.prog 62 os).forCall (fun _ _ => 0) ⟨#[], args, []⟩).memory :=
  laidMetH_of_parts3 (fuel := 8) (laidMet_of_run' 8 (by kernel_rfl) (by kernel_rfl)) (by kernel_rfl) (by kernel_rfl)

section
variable {H : Type} {enc : TypeId × Value → H} {W : World}

theorem rd_of {k : IntKind} {x : Addr} {len : Nat} {zs : List Int} (hl : len ≤ zs.length) (hcell : ∀ i, i < zs.length → W.cell? (x.add i) = some (.int k (zs.getD i 0))) : Rd W (some x) len (fun i => .int k (zs.getD i 0)) := fun hp => by
  obtain ⟨b, off, rfl, hc⟩ := ints_at hcell (show 0 < zs.length by omega)
  exact ⟨b, off, rfl, fun i hi => by rw [← hcell i (by omega), Addr.add_lit]⟩

/-- A slice of integers that came in. -/
theorem view_ints {t e : TypeId} {k : IntKind} {fuel : Nat} {a : Option Addr} {len cap : Nat} {x : DataW H × List MemPlace} (ht : Tryd.prog.underlying t = some (.slice e)) (he : Tryd.prog.underlying e = some (.int k)) (hc : Tryd.prog.cellsOf e = 1)
    (h : DataW.trod enc Tryd.prog W 0 (fun _ => true) true fuel t [.slice a len cap] = some x) :
    ∃ f : Nat → Int, Rd W a len (fun i => .int k (f i)) ∧ len ≤ maxLen ∧ ∀ i, i < len → (Lit.int k (f i)).wf = true := by
  rcases open_ints ht he hc h with ⟨hcs, _⟩ | ⟨x, l, c, zs, hcs, _, hl, hm, hz, _, hcell, hwz⟩
  · simp at hcs
    obtain ⟨rfl, rfl, rfl⟩ := hcs
    exact ⟨fun _ => 0, fun h => by omega, Nat.zero_le _, fun i hi => by omega⟩
  · simp at hcs
    obtain ⟨rfl, rfl, rfl⟩ := hcs
    have hz' : zs.length = cap := by simpa using hz
    refine ⟨fun i => zs.getD i 0, rd_of (by omega) hcell, by omega, fun i hi => ?_⟩
    refine hwz _ ?_
    simp [List.getD, show i < zs.length by omega]

/-- A slice of bools that came in. -/
theorem view_bools {t e : TypeId} {fuel : Nat} {a : Option Addr} {len cap : Nat} {x : DataW H × List MemPlace} (ht : Tryd.prog.underlying t = some (.slice e)) (he : Tryd.prog.underlying e = some .bool) (hc : Tryd.prog.cellsOf e = 1)
    (h : DataW.trod enc Tryd.prog W 0 (fun _ => true) true fuel t [.slice a len cap] = some x) :
    ∃ f : Nat → Bool, Rd W a len (fun i => .bool (f i)) ∧ len ≤ maxLen := by
  rcases Deep.open_bools ht he hc h with ⟨hcs, _⟩ | ⟨x, l, c, B, hcs, _, hl, hm, _, hcell⟩
  · simp at hcs
    obtain ⟨rfl, rfl, rfl⟩ := hcs
    exact ⟨fun _ => false, fun h => by omega, Nat.zero_le _⟩
  · simp at hcs
    obtain ⟨rfl, rfl, rfl⟩ := hcs
    refine ⟨B, fun hp => ?_, by omega⟩
    obtain ⟨b, off, spot⟩ := x
    have hspot : spot = none := by simpa [Addr.add] using World.cell?_spot (hcell 0 (by omega))
    subst hspot
    exact ⟨b, off, rfl, fun j hj => by rw [← Go.WideShapes.add_plain]; exact hcell j (by omega)⟩
end

end Go.Proofs.Qxb6608942aDoor
