import Derived.Test.Qxb6608942aDoorCopy
import Derived.Test.Qxb6608942aDoorNewRing
import Derived.Test.Qxb6608942aDoorOrder
import Derived.Test.Qxb6608942aDoorOrderOK
import Derived.Test.Qxb6608942aDoorReads
namespace Go.Proofs.Qxb6608942aDoor
open Go.RowKit

/-- A ring that is well formed, its nodes as numbers. -/
structure Good (L N : Nat) (pos : Nat → Int) (nd : Nat → Nat) : Prop where
  sorted : ∀ a b, a ≤ b → b < L → pos a ≤ pos b
  range : ∀ i, i < L → nd i < N
  all : ∀ x, x < N → ∃ i, i < L ∧ nd i = x
  pos : ∀ j, j < L → 0 ≤ pos j ∧ pos j < 18446744073709551616

theorem RingFits.good {n N : Nat} {pos node : Nat → Int} (h : RingFits n n N pos node) (hp : ∀ j, j < n → 0 ≤ pos j ∧ pos j < 18446744073709551616) :
    ∃ nd : Nat → Nat, (∀ i, i < n → node i = ((nd i : Nat) : Int)) ∧ Good n N pos nd := by
  have e : ∀ i, i < n → node i = (((node i).toNat : Nat) : Int) := fun i hi => by have := h.range i hi; omega
  refine ⟨fun i => (node i).toNat, e, h.sorted, fun i hi => by have := h.range i hi; omega, fun x hx => ?_, hp⟩
  obtain ⟨j, hj, hjx⟩ := h.all x hx
  exact ⟨j, hj, by rw [hjx]; simp⟩

/-- The order of the nodes as the walk from p meets them. -/
def ordP (L : Nat) (pos : Nat → Int) (nd : Nat → Nat) (p : Int) : List Nat := ordr nd L (startAt pos L p)

theorem ordP_len {L N : Nat} {pos : Nat → Int} {nd : Nat → Nat} (h : Good L N pos nd) (p : Int) : (ordP L pos nd p).length = N := by
  rcases Nat.eq_zero_or_pos L with hL | hL
  · have hN : N = 0 := by
      rcases Nat.eq_zero_or_pos N with h0 | h0
      · exact h0
      · obtain ⟨i, hi, _⟩ := h.all 0 h0; omega
    subst hL hN
    rfl
  · refine vis_full (fun i hi => h.range _ (Nat.mod_lt _ hL)) (fun x hx => ?_)
    obtain ⟨i, hi, e⟩ := h.all x hx
    have hst := (start_is (p := p) h.sorted).1
    refine ⟨(i + (L - startAt pos L p)) % L, Nat.mod_lt _ hL, ?_⟩
    unfold rotq
    rw [Nat.add_mod_mod, show startAt pos L p + (i + (L - startAt pos L p)) = i + L by omega, Nat.add_mod_right, Nat.mod_eq_of_lt hi]
    exact e

theorem ordP_lt {L N : Nat} {pos : Nat → Int} {nd : Nat → Nat} (h : Good L N pos nd) (p : Int) : ∀ x, x ∈ ordP L pos nd p → x < N := fun x hx => by
  obtain ⟨i, hi, e⟩ := (vis_mem _ _ _).1 hx
  rw [← e]
  exact h.range _ (Nat.mod_lt _ (by omega))

theorem ordP_nodup (L : Nat) (pos : Nat → Int) (nd : Nat → Nat) (p : Int) : (ordP L pos nd p).Nodup := vis_nodup _ _

theorem getD_mem {l : List Nat} {i : Nat} (h : i < l.length) : l.getD i 0 ∈ l := by
  simp [List.getD, h]

theorem ordP_fits {L N : Nat} {pos : Nat → Int} {nd : Nat → Nat} (h : Good L N pos nd) {p : Int} (hp0 : 0 ≤ p) (hp1 : p < 18446744073709551616) :
    OrderFits L N pos nd p (fun i => (ordP L pos nd p).getD i 0) := by
  have hl := ordP_len h p
  refine ⟨fun i hi => ordP_lt h p _ (getD_mem (by omega)), fun i j hij hj => ?_, fun i hi => ?_⟩
  · have hnd := ordP_nodup L pos nd p
    intro e
    have h1 : i < (ordP L pos nd p).length := by omega
    have h2 : j < (ordP L pos nd p).length := by omega
    simp only [List.getD, List.getElem?_eq_getElem h1, List.getElem?_eq_getElem h2, Option.getD_some] at e
    exact List.pairwise_iff_getElem.1 hnd i j h1 h2 hij e
  · have hk := order_key (nd := nd) h.sorted hp0 hp1 h.pos (i := i) (by show i + 1 < (ordP L pos nd p).length; omega)
    unfold keyLess ordP
    by_cases e : (bst pos nd p L ((ordr nd L (startAt pos L p)).getD i 0)).1 = (bst pos nd p L ((ordr nd L (startAt pos L p)).getD (i + 1) 0)).1
    · rw [if_pos e]; simp only [decide_eq_true_eq]; omega
    · rw [if_neg e]; simp only [decide_eq_true_eq]; omega

theorem pv_range {s : ByteArray} (hx : hexTo s 16) : 0 ≤ pvTo s 16 ∧ pvTo s 16 < 18446744073709551616 := by
  have h := pvTo_bd s 16 hx
  have e : (16 : Int) ^ 16 = 18446744073709551616 := by decide
  rw [e] at h
  exact h

/-- ZZnewRing, over numbers. -/
theorem newRing_at (a b : Option Addr) (L ca cb N R : Nat) (r : Int) (pos : Nat → Int) (nd : Nat → Nat) (w : World) (hL : L ≤ 1000000) (hR : r = (R : Int))
    (ha : Rd w a L (fun i => .int .u64 (pos i))) (hb : Rd w b L (fun i => .int .i64 (nd i : Int))) :
    Calls Tryd.prog 13 #[.slice a L ca, .slice b L cb, .int .i64 N, .int .i64 r] w fun e w' =>
      ∃ rb pb, e = .returned (.pointer (some ⟨rb, 0, none⟩)) ∧ RingAt w' rb pb L N R pos (fun i => (nd i : Int)) ∧ rb < w'.heap.size ∧ pb < w'.heap.size ∧ Below w.heap.size w w' := by
  subst hR
  exact newRing_any a b L ca cb N R pos (fun i => (nd i : Int)) w hL ha hb

/-- Order, over a ring that is well formed. -/
theorem order_good (s : ByteArray) (rb pb L N R : Nat) (pos : Nat → Int) (nd : Nat → Nat) (w : World)
    (hs : s.size ≤ maxLen) (h16 : 16 ≤ s.size) (hx : hexTo s 16)
    (hr : RingAt w rb pb L N R pos (fun i => (nd i : Int))) (hrb : rb < w.heap.size) (hpb : pb < w.heap.size)
    (hL : L ≤ 1000000) (hN : N ≤ 1000000) (hg : Good L N pos nd) :
    Calls Tryd.prog 14 #[.pointer (some ⟨rb, 0, none⟩), .string s] w fun e w' =>
      ∃ ao cap, e = .returned (.slice ao N cap) ∧ Rd w' ao N (fun i => .int .i64 (((ordP L pos nd (pvTo s 16)).getD i 0 : Nat) : Int)) ∧ Below w.heap.size w w' := by
  have h := order_any s rb pb L N R pos nd w hs h16 hx hr hrb hpb hL hN hg.sorted hg.range hg.all
  rw [show (ordr nd L (startAt pos L (pvTo s 16))).length = N from ordP_len hg _] at h
  exact h

end Go.Proofs.Qxb6608942aDoor
