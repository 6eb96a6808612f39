/- Plain mathematics: no Go in sight. -/
namespace Go.Proofs.Qxb6608942aDoor

/-- How many of 0 .. n-1 meet p. -/
def cntB (p : Nat → Bool) : Nat → Nat
  | 0 => 0
  | n + 1 => cntB p n + (if p n = true then 1 else 0)

theorem cntB_le (p : Nat → Bool) : ∀ n, cntB p n ≤ n
  | 0 => Nat.le_refl _
  | n + 1 => by have := cntB_le p n; simp only [cntB]; split <;> omega

theorem cntB_congr {p q : Nat → Bool} : ∀ n, (∀ i, i < n → p i = q i) → cntB p n = cntB q n
  | 0, _ => rfl
  | n + 1, h => by simp only [cntB]; rw [cntB_congr n (fun i hi => h i (by omega)), h n (by omega)]

theorem cntB_none {p : Nat → Bool} : ∀ n, (∀ i, i < n → p i = false) → cntB p n = 0
  | 0, _ => rfl
  | n + 1, h => by simp only [cntB]; rw [cntB_none n (fun i hi => h i (by omega)), h n (by omega)]; rfl

theorem cntB_step {p q : Nat → Bool} {x : Nat} (hp : p x = false) (hq : q x = true) (he : ∀ i, i ≠ x → q i = p i) : ∀ n, cntB q n = cntB p n + (if x < n then 1 else 0)
  | 0 => by simp [cntB]
  | n + 1 => by
    simp only [cntB]
    rw [cntB_step hp hq he n]
    by_cases e : n = x
    · subst e; simp [hp, hq]
    · rw [he n e]
      by_cases h : x < n
      · simp [h, show x < n + 1 by omega]; omega
      · simp [h, show ¬ x < n + 1 by omega]

theorem cntB_all {p : Nat → Bool} : ∀ n, cntB p n = n → ∀ i, i < n → p i = true
  | 0, _, i, hi => by omega
  | n + 1, h, i, hi => by
    simp only [cntB] at h
    have := cntB_le p n
    by_cases hp : p n = true
    · rw [if_pos hp] at h
      by_cases e : i = n
      · subst e; exact hp
      · exact cntB_all n (by omega) i (by omega)
    · rw [if_neg hp] at h; omega

theorem cntB_full {p : Nat → Bool} : ∀ n, (∀ i, i < n → p i = true) → cntB p n = n
  | 0, _ => rfl
  | n + 1, h => by simp only [cntB]; rw [cntB_full n (fun i hi => h i (by omega)), if_pos (h n (by omega))]

/-- What has been met, each once, in the order of the meeting, behind t steps. -/
def vis (q : Nat → Nat) : Nat → List Nat
  | 0 => []
  | t + 1 => if q t ∈ vis q t then vis q t else vis q t ++ [q t]

theorem vis_old {q : Nat → Nat} {t : Nat} (h : q t ∈ vis q t) : vis q (t + 1) = vis q t := by simp [vis, h]
theorem vis_new {q : Nat → Nat} {t : Nat} (h : ¬ q t ∈ vis q t) : vis q (t + 1) = vis q t ++ [q t] := by simp [vis, h]

theorem vis_mem (q : Nat → Nat) (x : Nat) : ∀ t, x ∈ vis q t ↔ ∃ i, i < t ∧ q i = x
  | 0 => by simp [vis]
  | t + 1 => by
    have ih := vis_mem q x t
    by_cases h : q t ∈ vis q t
    · rw [vis_old h, ih]
      constructor
      · rintro ⟨i, hi, e⟩; exact ⟨i, by omega, e⟩
      · rintro ⟨i, hi, e⟩
        by_cases e2 : i = t
        · subst e2; rw [e] at h; exact ih.1 h
        · exact ⟨i, by omega, e⟩
    · rw [vis_new h, List.mem_append, ih]
      constructor
      · rintro (⟨i, hi, e⟩ | hx)
        · exact ⟨i, by omega, e⟩
        · exact ⟨t, by omega, by simpa using (List.mem_singleton.1 hx).symm⟩
      · rintro ⟨i, hi, e⟩
        by_cases e2 : i = t
        · subst e2; right; simp [e]
        · left; exact ⟨i, by omega, e⟩

theorem vis_prefix (q : Nat → Nat) (t : Nat) : ∀ d, vis q t <+: vis q (t + d)
  | 0 => List.prefix_refl _
  | d + 1 => by
    refine (vis_prefix q t d).trans ?_
    rw [show t + (d + 1) = (t + d) + 1 by omega]
    by_cases h : q (t + d) ∈ vis q (t + d)
    · rw [vis_old h]; exact List.prefix_refl _
    · rw [vis_new h]; exact List.prefix_append _ _

theorem vis_prefix_le (q : Nat → Nat) {t u : Nat} (h : t ≤ u) : vis q t <+: vis q u := by
  have := vis_prefix q t (u - t)
  rwa [show t + (u - t) = u by omega] at this

theorem vis_nodup (q : Nat → Nat) : ∀ t, (vis q t).Nodup
  | 0 => by simp [vis]
  | t + 1 => by
    by_cases h : q t ∈ vis q t
    · rw [vis_old h]; exact vis_nodup q t
    · rw [vis_new h, List.nodup_append]
      exact ⟨vis_nodup q t, by simp, fun a ha b hb => by simp at hb; subst hb; intro e; subst e; exact h ha⟩

theorem vis_len {q : Nat → Nat} {N : Nat} : ∀ t, (∀ i, i < t → q i < N) → (vis q t).length = cntB (fun i => decide (i ∈ vis q t)) N
  | 0, _ => by simp only [vis, List.length_nil]; exact (cntB_none N (fun i _ => by simp)).symm
  | t + 1, h => by
    have ih := vis_len t (fun i hi => h i (by omega))
    by_cases hm : q t ∈ vis q t
    · rw [vis_old hm]; exact ih
    · rw [vis_new hm]
      have := cntB_step (p := fun i => decide (i ∈ vis q t)) (q := fun i => decide (i ∈ vis q t ++ [q t])) (x := q t) (by simpa using hm) (by simp)
        (fun i hi => by simp [hi]) N
      rw [this, if_pos (h t (by omega)), ← ih]; simp

theorem vis_full {q : Nat → Nat} {N t : Nat} (h : ∀ i, i < t → q i < N) (hall : ∀ x, x < N → ∃ i, i < t ∧ q i = x) : (vis q t).length = N := by
  rw [vis_len t h]
  exact cntB_full N (fun i hi => by simpa using (vis_mem q i t).2 (hall i hi))

theorem vis_le {q : Nat → Nat} {N t : Nat} (h : ∀ i, i < t → q i < N) : (vis q t).length ≤ N := by
  rw [vis_len t h]; exact cntB_le _ _

/-- The first prefix, not empty, of what is to come at which cont says no; all of it where there is none. -/
def cutL (cont : List Nat → Bool) : List Nat → List Nat → List Nat
  | acc, [] => acc
  | acc, x :: xs => if cont (acc ++ [x]) = true then cutL cont (acc ++ [x]) xs else acc ++ [x]

theorem drop_of_prefix {l D : List Nat} {x : Nat} (h : l ++ [x] <+: D) : D.drop l.length = x :: D.drop (l.length + 1) := by
  obtain ⟨r, rfl⟩ := h
  simp [List.drop_append]

theorem cut_step {cont : List Nat → Bool} {l D : List Nat} {x : Nat} (h : l ++ [x] <+: D) (hc : cont (l ++ [x]) = true) :
    cutL cont l (D.drop l.length) = cutL cont (l ++ [x]) (D.drop (l ++ [x]).length) := by
  rw [drop_of_prefix h]; simp [cutL, hc]

theorem cut_stop {cont : List Nat → Bool} {l D : List Nat} {x : Nat} (h : l ++ [x] <+: D) (hc : cont (l ++ [x]) = false) :
    cutL cont l (D.drop l.length) = l ++ [x] := by
  rw [drop_of_prefix h]; simp [cutL, hc]

theorem cut_end {cont : List Nat → Bool} {l D : List Nat} (h : D.length ≤ l.length) : cutL cont l (D.drop l.length) = l := by
  rw [List.drop_of_length_le h]; rfl

end Go.Proofs.Qxb6608942aDoor
