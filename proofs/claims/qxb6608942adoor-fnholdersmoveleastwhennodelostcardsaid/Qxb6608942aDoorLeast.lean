import Derived.Test.Qxb6608942aDoorFirst
namespace Go.Proofs.Qxb6608942aDoor

def notK (k : Nat) (x : Nat) : Bool := !decide (x = k)
/-- The mask without node k. -/
def lose (us : Nat → Bool) (k : Nat) (x : Nat) : Bool := us x && notK k x

theorem filter_lose (us : Nat → Bool) (k : Nat) (l : List Nat) : l.filter (lose us k) = (l.filter us).filter (notK k) := by
  rw [List.filter_filter]
  refine List.filter_congr (fun x _ => ?_)
  unfold lose
  rw [Bool.and_comm]

theorem notK_len {k : Nat} : ∀ {l : List Nat}, l.Nodup → l.length ≤ (l.filter (notK k)).length + 1
  | [], _ => by simp
  | x :: xs, h => by
    have h' := List.nodup_cons.1 h
    by_cases e : x = k
    · have hx : xs.filter (notK k) = xs := List.filter_eq_self.2 (fun a ha => by
        unfold notK
        have : a ≠ k := fun e2 => by subst e2; subst e; exact h'.1 ha
        simpa using this)
      have hn : notK k x = false := by simp [notK, e]
      simp [hn, hx]
    · have hn : notK k x = true := by simp [notK, e]
      have := notK_len (k := k) h'.2
      simp [hn]
      omega

/-- A prefix, not empty, of what is usable ends at one place of the whole. -/
theorem prefix_place {us : Nat → Bool} : ∀ {D h : List Nat}, h <+: D.filter us → h ≠ [] → ∃ i, i < D.length ∧ (D.take (i + 1)).filter us = h ∧ D.getD i 0 = h.getD (h.length - 1) 0
  | [], h, hp, hn => by simp at hp; exact absurd hp hn
  | x :: xs, h, hp, hn => by
    cases hu : us x
    · rw [List.filter_cons, hu] at hp
      obtain ⟨i, h1, h2, h3⟩ := prefix_place (D := xs) (by simpa using hp) hn
      exact ⟨i + 1, by simp; omega, by simp [hu, h2], by simpa using h3⟩
    · rw [List.filter_cons, hu] at hp
      simp only [if_true] at hp
      cases h with
      | nil => exact absurd rfl hn
      | cons y ys =>
        obtain ⟨rfl, hp'⟩ := List.cons_prefix_cons.1 hp
        by_cases hy : ys = []
        · subst hy
          exact ⟨0, by simp, by simp [hu], by simp⟩
        · obtain ⟨i, h1, h2, h3⟩ := prefix_place (D := xs) hp' hy
          refine ⟨i + 1, by simp; omega, by simp [hu, h2], ?_⟩
          have hl : 0 < ys.length := List.length_pos_iff.2 hy
          rw [show (y :: ys).length - 1 = (ys.length - 1) + 1 by simp; omega]
          simpa using h3

theorem hold_prefix (D : List Nat) (us : Nat → Bool) (R : Nat) : hold D us R <+: D.filter us := List.take_prefix _ _

theorem hold_rest {D : List Nat} {us : Nat → Bool} {R i : Nat} (h : (D.take (i + 1)).filter us = hold D us R) (hl : (hold D us R).length < R) : (D.drop (i + 1)).filter us = [] := by
  have e : D.filter us = hold D us R ++ (D.drop (i + 1)).filter us := by rw [← h, ← List.filter_append, List.take_append_drop]
  have hF : hold D us R = D.filter us := by
    unfold hold at hl ⊢
    rw [List.length_take] at hl
    exact List.take_of_length_le (by omega)
  have h2 := congrArg List.length e
  rw [hF] at h2
  simp at h2
  exact List.eq_nil_of_length_eq_zero (by simpa using h2)

/-- Node k is not among the holders: they stay. -/
theorem least_stay {D : List Nat} {us : Nat → Bool} {R k : Nat} (h : ((hold D us R).filter (notK k)).length = (hold D us R).length) : hold D (lose us k) R = hold D us R := by
  have h1 : (hold D us R).filter (notK k) = hold D us R := List.filter_eq_self.2 (List.length_filter_eq_length_iff.1 h)
  have e : D.filter us = hold D us R ++ (D.filter us).drop R := (List.take_append_drop R (D.filter us)).symm
  show (D.filter (lose us k)).take R = _
  rw [filter_lose, e, List.filter_append, h1]
  by_cases hl : R ≤ (D.filter us).length
  · have : (hold D us R).length = R := by unfold hold; rw [List.length_take]; omega
    rw [List.take_left' this]
  · rw [List.drop_of_length_le (by omega)]
    simp only [List.filter_nil, List.append_nil]
    exact List.take_of_length_le (by unfold hold; rw [List.length_take]; omega)

/-- Node k is among the holders: the others stay, and the next usable node behind them, if any, comes. -/
theorem least_move {D : List Nat} {us : Nat → Bool} {R k i : Nat} (hnd : D.Nodup) (hi : (D.take (i + 1)).filter us = hold D us R) (h : ((hold D us R).filter (notK k)).length ≠ (hold D us R).length) :
    hold D (lose us k) R = (hold D us R).filter (notK k) ++ ((D.drop (i + 1)).filter (lose us k)).take 1 := by
  have hhn : (hold D us R).Nodup := (List.take_sublist _ _).nodup (hnd.filter _)
  have h1 := notK_len (k := k) hhn
  have h2 := List.length_filter_le (notK k) (hold D us R)
  have hR : (hold D us R).length ≤ R := by unfold hold; rw [List.length_take]; omega
  have e : D.filter (lose us k) = (hold D us R).filter (notK k) ++ (D.drop (i + 1)).filter (lose us k) := by
    rw [← hi, ← filter_lose, ← List.filter_append, List.take_append_drop]
  show (D.filter (lose us k)).take R = _
  rw [e, List.take_append]
  rw [List.take_of_length_le (by omega)]
  by_cases hl : (hold D us R).length < R
  · have h3 := hold_rest hi hl
    have h4 : (D.drop (i + 1)).filter (lose us k) = [] := by rw [filter_lose, h3]; rfl
    rw [h4]
    simp
  · rw [show R - ((hold D us R).filter (notK k)).length = 1 by omega]

theorem place_first {D : List Nat} (hnd : D.Nodup) {i j : Nat} (hij : j < i) (hi : i < D.length) : D.getD j 0 ≠ D.getD i 0 := by
  have h1 : j < D.length := by omega
  simp only [List.getD, List.getElem?_eq_getElem h1, List.getElem?_eq_getElem hi, Option.getD_some]
  exact List.pairwise_iff_getElem.1 hnd j i h1 hi hij

end Go.Proofs.Qxb6608942aDoor
