import Derived.Test.Qxb6608942aDoorHolders
namespace Go.Proofs.Qxb6608942aDoor
open Go.RowKit

theorem vis_filter_len {q : Nat → Nat} {us : Nat → Bool} {N : Nat} : ∀ t, (∀ i, i < t → q i < N) → ((vis q t).filter us).length = cntB (fun i => decide (i ∈ vis q t) && us i) N
  | 0, _ => by simp only [vis, List.filter_nil, List.length_nil]; exact (cntB_none N (fun i _ => by simp)).symm
  | t + 1, h => by
    have ih := vis_filter_len (us := us) t (fun i hi => h i (by omega))
    by_cases hm : q t ∈ vis q t
    · rw [vis_old hm]; exact ih
    · rw [vis_new hm]
      cases hu : us (q t)
      · rw [filter_no hu, ih]
        refine cntB_congr N (fun i _ => ?_)
        by_cases e : i = q t
        · subst e; simp [hu]
        · simp [e]
      · rw [filter_yes hu]
        have := cntB_step (p := fun i => decide (i ∈ vis q t) && us i) (q := fun i => decide (i ∈ vis q t ++ [q t]) && us i) (x := q t) (by simp [hm]) (by simp [hu])
          (fun i hi => by simp [hi]) N
        rw [this, if_pos (h t (by omega)), ← ih]; simp

theorem ordP_count {L N : Nat} {pos : Nat → Int} {nd : Nat → Nat} (h : Good L N pos nd) (p : Int) (us : Nat → Bool) : ((ordP L pos nd p).filter us).length = cntB us N := by
  rw [show ordP L pos nd p = vis (rotq nd L (startAt pos L p)) L from rfl, vis_filter_len (q := rotq nd L (startAt pos L p)) (N := N) L (fun i hi => h.range _ (Nat.mod_lt _ (by omega)))]
  refine cntB_congr N (fun i hi => ?_)
  have hlen := ordP_len h p
  have hall := cntB_all N ((vis_len (q := rotq nd L (startAt pos L p)) L (fun i hi => h.range _ (Nat.mod_lt _ (by omega)))).symm.trans hlen) i hi
  simp only [decide_eq_true_eq] at hall
  simp [hall]

theorem hold_len {L N : Nat} {pos : Nat → Int} {nd : Nat → Nat} (h : Good L N pos nd) (p : Int) (us : Nat → Bool) (R : Nat) : (hold (ordP L pos nd p) us R).length = if R < cntB us N then R else cntB us N := by
  unfold hold
  rw [List.length_take, ordP_count h]
  split <;> omega

set_option maxHeartbeats 400000 in
theorem replicas_any (rb pb L N R : Nat) (pos node : Nat → Int) (w : World) (hr : RingAt w rb pb L N R pos node) :
    Calls Tryd.prog 24 #[.pointer (some ⟨rb, 0, none⟩)] w fun e w' => e = .returned (.int .i64 R) ∧ w' = w := by
  have q2 := hr.h2
  clear hr
  go_enter Tryd.func24, Tryd.ntmps24
  go_wp2
  go_ret
  exact ⟨rfl, rfl⟩
end Go.Proofs.Qxb6608942aDoor
