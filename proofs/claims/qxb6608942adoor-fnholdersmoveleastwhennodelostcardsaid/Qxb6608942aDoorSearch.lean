import Derived.Test.Qxb6608942aDoorBase
import Derived.Deep.LoopGhost
namespace Go.Proofs.Qxb6608942aDoor
open Go.RowKit

/-- A ring in memory: its header at block rb, its points at block pb. -/
structure RingAt (w : World) (rb pb L N R : Nat) (pos node : Nat → Int) : Prop where
  h0 : w.cell? ⟨rb, 0, none⟩ = some (.slice (some ⟨pb, 0, none⟩) L L)
  h1 : w.cell? ⟨rb, 1, none⟩ = some (.int .i64 N)
  h2 : w.cell? ⟨rb, 2, none⟩ = some (.int .i64 R)
  hp : ∀ i, i < L → w.cell? ⟨pb, i * 2, none⟩ = some (.int .u64 (pos i))
  hn : ∀ i, i < L → w.cell? ⟨pb, i * 2 + 1, none⟩ = some (.int .i64 (node i))

theorem RingAt.of_cells {w w' : World} {rb pb L N R : Nat} {pos node : Nat → Int} (h : RingAt w rb pb L N R pos node)
    (e1 : w'.heap[rb]? = w.heap[rb]?) (e2 : w'.heap[pb]? = w.heap[pb]?) : RingAt w' rb pb L N R pos node :=
  ⟨(World.cell?_of_block (a := ⟨rb, 0, none⟩) e1).trans h.h0, (World.cell?_of_block (a := ⟨rb, 1, none⟩) e1).trans h.h1, (World.cell?_of_block (a := ⟨rb, 2, none⟩) e1).trans h.h2,
    fun i hi => (World.cell?_of_block (a := ⟨pb, i * 2, none⟩) e2).trans (h.hp i hi), fun i hi => (World.cell?_of_block (a := ⟨pb, i * 2 + 1, none⟩) e2).trans (h.hn i hi)⟩

theorem RingAt.below {w w' : World} {rb pb L N R : Nat} {pos node : Nat → Int} {B : Nat} (h : RingAt w rb pb L N R pos node) (hb : Below B w w') (h1 : rb < B) (h2 : pb < B) : RingAt w' rb pb L N R pos node :=
  h.of_cells (hb.block _ h1) (hb.block _ h2)

set_option maxHeartbeats 400000 in
/-- The closure that the ring hands to sort.Search. -/
theorem atLeast_any (xb qb rb pb L N R : Nat) (pos node : Nat → Int) (p : Int) (i : Nat) (w : World) (hi : i < L)
    (hx : w.cell? ⟨xb, 0, none⟩ = some (.pointer (some ⟨rb, 0, none⟩))) (hq : w.cell? ⟨qb, 0, none⟩ = some (.int .u64 p)) (hr : RingAt w rb pb L N R pos node) :
    Calls Tryd.prog 39 #[.int .i64 i, .pointer (some ⟨xb, 0, none⟩), .pointer (some ⟨qb, 0, none⟩)] w fun e w' => e = .returned (.bool (decide (p ≤ pos i))) ∧ ∃ q, w' = w.drewN q := by
  have c0 := hr.h0
  have c1 := hr.hp i hi
  clear hr
  have hi' : (i : Int) < (L : Int) := by omega
  go_enter Tryd.func39, Tryd.ntmps39
  go_wp2
  go_quiet (fail)
  go_wp2
  go_ret
  exact ⟨rfl, _, rfl⟩

theorem atLeast_is (b : Bool) (xb qb rb pb L N R : Nat) (pos node : Nat → Int) (p : Int) (i : Nat) (j : Int) (w : World) (hi : i < L) (hj : j = (i : Int)) (hb : decide (p ≤ pos i) = b)
    (hx : w.cell? ⟨xb, 0, none⟩ = some (.pointer (some ⟨rb, 0, none⟩))) (hq : w.cell? ⟨qb, 0, none⟩ = some (.int .u64 p)) (hr : RingAt w rb pb L N R pos node) :
    Calls Tryd.prog 39 #[.int .i64 j, .pointer (some ⟨xb, 0, none⟩), .pointer (some ⟨qb, 0, none⟩)] w fun e w' => e = .returned (.bool b) ∧ ∃ q, w' = w.drewN q := by
  subst hj hb
  exact atLeast_any xb qb rb pb L N R pos node p i w hi hx hq hr

theorem RingAt.drewN {w : World} {rb pb L N R : Nat} {pos node : Nat → Int} (h : RingAt w rb pb L N R pos node) (q : Nat) : RingAt (w.drewN q) rb pb L N R pos node :=
  h.of_cells rfl rfl

set_option maxHeartbeats 1000000 in
/-- sort.Search over the ring's points: how many lie before p. -/
theorem search_any (xb qb rb pb L N R : Nat) (pos node : Nat → Int) (p : Int) (w : World) (hL : L ≤ 1000000)
    (hx : w.cell? ⟨xb, 0, none⟩ = some (.pointer (some ⟨rb, 0, none⟩))) (hq : w.cell? ⟨qb, 0, none⟩ = some (.int .u64 p)) (hr : RingAt w rb pb L N R pos node)
    (hs : ∀ a b, a ≤ b → b < L → pos a ≤ pos b) :
    Calls Tryd.prog 38 #[.int .i64 L, .func (.func 39) #[] #[.pointer (some ⟨xb, 0, none⟩), .pointer (some ⟨qb, 0, none⟩)]] w fun e w' =>
      ∃ s : Nat, s ≤ L ∧ e = .returned (.int .i64 s) ∧ (∀ t, t < s → pos t < p) ∧ (∀ t, s ≤ t → t < L → p ≤ pos t) ∧ ∃ q, w' = w.drewN q := by
  have HX : Hid (w.cell? ⟨xb, 0, none⟩ = some (.pointer (some ⟨rb, 0, none⟩))) := hx
  have HQ : Hid (w.cell? ⟨qb, 0, none⟩ = some (.int .u64 p)) := hq
  have HR : Hid (RingAt w rb pb L N R pos node) := hr
  have HS : Hid (∀ a b, a ≤ b → b < L → pos a ≤ pos b) := hs
  clear hx hq hr hs
  go_enter Tryd.func38, Tryd.ntmps38
  go_wp2
  go_loopw [5, 6] (fun i j wr => ∃ lo hi q : Nat, lo ≤ hi ∧ hi ≤ L ∧ i = .int .i64 lo ∧ j = .int .i64 hi ∧ Hid ((∀ t, t < lo → pos t < p) ∧ (∀ t, hi ≤ t → t < L → p ≤ pos t)) ∧ wr = w.drewN q) (fun i j _ => (intOf j - intOf i).toNat)
  case atStart => exact ⟨0, L, 0, Nat.zero_le _, Nat.le_refl _, rfl, rfl, ⟨fun t ht => by omega, fun t h1 h2 => by omega⟩, rfl⟩
  case round =>
    obtain ⟨lo, hi, q, h1, h2, rfl, rfl, HI, rfl⟩ := hrel
    by_cases hlt : lo < hi
    · by_cases hp : p ≤ pos ((lo + hi) / 2)
      · have HP : Hid (p ≤ pos ((lo + hi) / 2)) := hp
        clear hp
        go_wp2_with fail
        refine (atLeast_is true xb qb rb pb L N R pos node p ((lo + hi) / 2) (((lo : Int) + (hi : Int)) / 2) (w.drewN q) (by omega) (by omega) (by simpa using HP.out) HX.out HQ.out (HR.out.drewN q)).mono ?_
        rintro e w' ⟨rfl, q', rfl⟩
        go_wp2
        go_roundw
        case rel => exact ⟨lo, (lo + hi) / 2, q + q', by omega, by omega, rfl, by go_num, ⟨HI.out.1, fun t ht htn => Int.le_trans HP.out (HS.out _ _ ht htn)⟩, rfl⟩
        case measure => simp [intOf]; omega
      · have HP : Hid (¬ p ≤ pos ((lo + hi) / 2)) := hp
        clear hp
        go_wp2_with fail
        refine (atLeast_is false xb qb rb pb L N R pos node p ((lo + hi) / 2) (((lo : Int) + (hi : Int)) / 2) (w.drewN q) (by omega) (by omega) (by simpa using HP.out) HX.out HQ.out (HR.out.drewN q)).mono ?_
        rintro e w' ⟨rfl, q', rfl⟩
        go_wp2
        go_roundw
        case rel => exact ⟨(lo + hi) / 2 + 1, hi, q + q', by omega, by omega, by go_num, rfl, ⟨fun t ht => by
          have h3 := HS.out t ((lo + hi) / 2) (by omega) (by omega)
          have h4 := HP.out
          omega, HI.out.2⟩, rfl⟩
        case measure => simp [intOf]; omega
    · obtain rfl : lo = hi := by omega
      go_wp2
      go_ret
      exact ⟨lo, h2, rfl, HI.out.1, HI.out.2, q, rfl⟩
end Go.Proofs.Qxb6608942aDoor
