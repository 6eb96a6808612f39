import Derived.Test.Qxb6608942aDoorTail
namespace Go.Proofs.Qxb6608942aDoor
open Go.RowKit

theorem gap_same {L N : Nat} {pos : Nat → Int} {nd : Nat → Nat} (h : Good L N pos nd) {p q : Int} (hp0 : 0 ≤ p) (hp1 : p < 18446744073709551616) (hq0 : 0 ≤ q) (hq1 : q < 18446744073709551616)
    (hg : ∀ j, j < L → (q - p) % 18446744073709551616 ≤ dst pos p j) : ordP L pos nd p = ordP L pos nd q := by
  by_cases c : p ≤ q
  · have e : startAt pos L p = startAt pos L q := cntB_congr L (fun j hj => by
      have h1 := hg j hj
      have h2 := h.pos j hj
      unfold dst at h1
      have : pos j < p ↔ pos j < q := by omega
      simp only [this])
    unfold ordP
    rw [e]
  · have h1 : ∀ j, j < L → q ≤ pos j ∧ pos j < p := fun j hj => by
      have h1 := hg j hj
      have h2 := h.pos j hj
      unfold dst at h1
      omega
    have e1 : startAt pos L p = L := cntB_full L (fun j hj => by simpa using (h1 j hj).2)
    have e2 : startAt pos L q = 0 := cntB_none L (fun j hj => by simpa using (h1 j hj).1)
    unfold ordP
    rw [e1, e2]
    unfold ordr
    have e3 : rotq nd L L = rotq nd L 0 := by
      funext t
      unfold rotq
      rw [Nat.add_mod_left, Nat.zero_add]
    rw [e3]

theorem wrap_gap (p q : Int) : IntKind.u64.wrap (q - p) = (q - p) % 18446744073709551616 := by rw [IntKind.wrap_u64]
end Go.Proofs.Qxb6608942aDoor
