import Derived.Test.Qxb6608942aDoorBase
namespace Go.Proofs.Qxb6608942aDoor
open Go.RowKit

set_option maxHeartbeats 400000 in
/-- zzEqInts, where the two are alike. -/
theorem eqInts_yes (a b : Option Addr) (n ca cb : Nat) (f : Nat → Int) (w : World) (hn : n ≤ 1000000)
    (ha : Rd w a n (fun i => .int .i64 (f i))) (hb : Rd w b n (fun i => .int .i64 (f i))) :
    Calls Tryd.prog 17 #[.slice a n ca, .slice b n cb] w fun e w' => e = .returned (.bool true) ∧ Below w.heap.size w w' := by
  have HA : Hid (Rd w a n (fun i => .int .i64 (f i))) := ha
  have HB : Hid (Rd w b n (fun i => .int .i64 (f i))) := hb
  clear ha hb
  go_enter Tryd.func17, Tryd.ntmps17
  go_wp2
  go_loopw [5] (fun i wr => ∃ k : Nat, k ≤ n ∧ i = .int .i64 k ∧ Below w.heap.size w wr) (fun i _ => n - (intOf i).toNat)
  case atStart => exact ⟨0, Nat.zero_le _, rfl, Below.refl _ _⟩
  case round =>
    obtain ⟨k, hk, rfl, hbl⟩ := hrel
    by_cases hlt : k < n
    · obtain ⟨ba, oa, rfl, hca⟩ := HA.out.below hbl (by omega)
      obtain ⟨bb, ob, rfl, hcb⟩ := HB.out.below hbl (by omega)
      have c1 := hca k hlt
      have c2 := hcb k hlt
      clear hca hcb
      have HBL : Hid (Below w.heap.size w wr) := hbl
      clear hbl
      have hlt' : (k : Int) < (n : Int) := by omega
      go_wp2
      go_quiet (fail)
      go_wp2
      go_roundw
      case rel => exact ⟨k + 1, by omega, by go_num, below_drewN HBL.out _⟩
      case measure => simp [intOf]; omega
    · obtain rfl : k = n := by omega
      go_wp2
      go_ret
      exact ⟨rfl, hbl⟩

set_option maxHeartbeats 400000 in
/-- zzIsPrefix, where the first is a prefix of the second. -/
theorem isPrefix_yes (a b : Option Addr) (n m ca cb : Nat) (f : Nat → Int) (w : World) (hn : n ≤ m) (hm : m ≤ 1000000)
    (ha : Rd w a n (fun i => .int .i64 (f i))) (hb : Rd w b m (fun i => .int .i64 (f i))) :
    Calls Tryd.prog 29 #[.slice a n ca, .slice b m cb] w fun e w' => e = .returned (.bool true) ∧ Below w.heap.size w w' := by
  have HA : Hid (Rd w a n (fun i => .int .i64 (f i))) := ha
  have HB : Hid (Rd w b m (fun i => .int .i64 (f i))) := hb
  clear ha hb
  have hdec : decide (m < n) = false := by simpa using hn
  go_enter Tryd.func29, Tryd.ntmps29
  go_wp2
  go_loopw [5] (fun i wr => ∃ k : Nat, k ≤ n ∧ i = .int .i64 k ∧ Below w.heap.size w wr) (fun i _ => n - (intOf i).toNat)
  case atStart => exact ⟨0, Nat.zero_le _, rfl, Below.refl _ _⟩
  case round =>
    obtain ⟨k, hk, rfl, hbl⟩ := hrel
    by_cases hlt : k < n
    · obtain ⟨ba, oa, rfl, hca⟩ := HA.out.below hbl (by omega)
      obtain ⟨bb, ob, rfl, hcb⟩ := HB.out.below hbl (by omega)
      have c1 := hca k hlt
      have c2 := hcb k (by omega)
      clear hca hcb
      have HBL : Hid (Below w.heap.size w wr) := hbl
      clear hbl
      have hlt' : (k : Int) < (n : Int) := by omega
      have hlt2 : (k : Int) < (m : Int) := by omega
      go_wp2
      go_quiet (fail)
      go_wp2
      go_roundw
      case rel => exact ⟨k + 1, by omega, by go_num, below_drewN HBL.out _⟩
      case measure => simp [intOf]; omega
    · obtain rfl : k = n := by omega
      go_wp2
      go_ret
      exact ⟨rfl, hbl⟩

set_option maxHeartbeats 400000 in
/-- zzIndexOf, where x is met first at place i0. -/
theorem indexOf_yes (a : Option Addr) (n ca i0 : Nat) (f : Nat → Int) (x : Int) (w : World) (hn : n ≤ 1000000) (hi : i0 < n) (hx : f i0 = x) (hne : ∀ j, j < i0 → f j ≠ x)
    (ha : Rd w a n (fun i => .int .i64 (f i))) :
    Calls Tryd.prog 22 #[.slice a n ca, .int .i64 x] w fun e w' => e = .returned (.int .i64 i0) ∧ w' = w := by
  have HA : Hid (Rd w a n (fun i => .int .i64 (f i))) := ha
  have HX : Hid (f i0 = x) := hx
  have HN : Hid (∀ j, j < i0 → f j ≠ x) := hne
  clear ha hx hne
  go_enter Tryd.func22, Tryd.ntmps22
  go_wp2
  go_loop [5] (fun i => ∃ k : Nat, k ≤ i0 ∧ i = .int .i64 k) (fun i => n - (intOf i).toNat)
  case atStart => exact ⟨0, Nat.zero_le _, rfl⟩
  case round =>
    obtain ⟨k, hk, rfl⟩ := hrel
    obtain ⟨ba, oa, rfl, hca⟩ := HA.out (by omega)
    have c1 := hca k (by omega)
    clear hca
    have hlt' : (k : Int) < (n : Int) := by omega
    by_cases he : k = i0
    · subst he
      have hq : (f k == x) = true := by simpa using HX.out
      go_wp2
      go_ret
      exact ⟨rfl, rfl⟩
    · have hq : (f k == x) = false := by simpa using HN.out k (by omega)
      go_wp2
      go_round
      case rel => exact ⟨k + 1, by omega, by go_num⟩
      case measure => simp [intOf]; omega
end Go.Proofs.Qxb6608942aDoor
