import Derived.Test.Qxb6608942aDoorPlain
/- Plain mathematics: the nearest point of each node. -/
namespace Go.Proofs.Qxb6608942aDoor

/-- The clockwise distance from p to point j. -/
def dst (pos : Nat → Int) (p : Int) (j : Nat) : Int := (pos j - p) % 18446744073709551616

/-- Of the first k points of node n: the nearest one's distance and place. -/
def bst (pos : Nat → Int) (nd : Nat → Nat) (p : Int) : Nat → Nat → Int × Int
  | 0, _ => (0, -1)
  | k + 1, n => if nd k = n ∧ ((bst pos nd p k n).2 < 0 ∨ dst pos p k < (bst pos nd p k n).1) then (dst pos p k, (k : Int)) else bst pos nd p k n

theorem dst_bd (pos : Nat → Int) (p : Int) (j : Nat) : 0 ≤ dst pos p j ∧ dst pos p j < 18446744073709551616 := by unfold dst; omega

theorem bst_is (pos : Nat → Int) (nd : Nat → Nat) (p : Int) (n : Nat) : ∀ k, (bst pos nd p k n = (0, -1) ∧ ∀ j, j < k → nd j ≠ n) ∨
    ∃ j0, j0 < k ∧ nd j0 = n ∧ bst pos nd p k n = (dst pos p j0, (j0 : Int)) ∧ ∀ j, j < k → nd j = n → dst pos p j0 < dst pos p j ∨ (dst pos p j0 = dst pos p j ∧ j0 ≤ j)
  | 0 => .inl ⟨rfl, fun j hj => by omega⟩
  | k + 1 => by
    have ih := bst_is pos nd p n k
    simp only [bst]
    by_cases hk : nd k = n
    · rcases ih with ⟨e, hno⟩ | ⟨j0, h1, h2, e, h4⟩
      · right
        refine ⟨k, by omega, hk, by rw [if_pos ⟨hk, .inl (by rw [e]; decide)⟩], fun j hj hjn => ?_⟩
        by_cases e2 : j = k
        · subst e2; exact .inr ⟨rfl, Nat.le_refl _⟩
        · exact absurd hjn (hno j (by omega))
      · right
        by_cases hd : dst pos p k < dst pos p j0
        · refine ⟨k, by omega, hk, by rw [if_pos ⟨hk, .inr (by rw [e]; exact hd)⟩], fun j hj hjn => ?_⟩
          by_cases e2 : j = k
          · subst e2; exact .inr ⟨rfl, Nat.le_refl _⟩
          · rcases h4 j (by omega) hjn with h | h
            · left; omega
            · left; omega
        · refine ⟨j0, by omega, h2, by rw [if_neg (by rw [e]; rintro ⟨_, h | h⟩ <;> simp only [] at h <;> omega), e], fun j hj hjn => ?_⟩
          by_cases e2 : j = k
          · subst e2
            rcases Int.lt_or_eq_of_le (Int.not_lt.1 hd) with h | h
            · exact .inl h
            · exact .inr ⟨h, by omega⟩
          · exact h4 j (by omega) hjn
    · rw [if_neg (fun h => hk h.1)]
      rcases ih with ⟨e, hno⟩ | ⟨j0, h1, h2, e, h4⟩
      · left
        refine ⟨e, fun j hj => ?_⟩
        by_cases e2 : j = k
        · subst e2; exact hk
        · exact hno j (by omega)
      · right
        refine ⟨j0, by omega, h2, e, fun j hj hjn => ?_⟩
        by_cases e2 : j = k
        · subst e2; exact absurd hjn hk
        · exact h4 j (by omega) hjn

/-- The place at which a walk from p begins; the nodes in the order of the turn. -/
def startAt (pos : Nat → Int) (L : Nat) (p : Int) : Nat := cntB (fun i => decide (pos i < p)) L
def rotq (nd : Nat → Nat) (L s : Nat) (t : Nat) : Nat := nd ((s + t) % L)
def ordr (nd : Nat → Nat) (L s : Nat) : List Nat := vis (rotq nd L s) L

theorem cntB_bound {p : Nat → Bool} {s : Nat} : ∀ n, s ≤ n → (∀ t, t < s → p t = true) → (∀ t, s ≤ t → t < n → p t = false) → cntB p n = s
  | 0, h, _, _ => by simp [cntB]; omega
  | n + 1, h, h1, h2 => by
    by_cases e : s = n + 1
    · subst e; exact cntB_full _ h1
    · simp only [cntB]
      rw [cntB_bound n (by omega) h1 (fun t a b => h2 t a (by omega)), h2 n (by omega) (by omega)]
      simp

/-- What the start is, over points that rise. -/
theorem start_is {pos : Nat → Int} {L : Nat} {p : Int} (hs : ∀ a b, a ≤ b → b < L → pos a ≤ pos b) :
    startAt pos L p ≤ L ∧ (∀ t, t < startAt pos L p → pos t < p) ∧ (∀ t, startAt pos L p ≤ t → t < L → p ≤ pos t) := by
  have hex : ∀ n, n ≤ L → ∃ s, s ≤ n ∧ (∀ t, t < s → pos t < p) ∧ (∀ t, s ≤ t → t < n → p ≤ pos t) := by
    intro n
    induction n with
    | zero => exact fun _ => ⟨0, Nat.le_refl _, fun t ht => by omega, fun t h1 h2 => by omega⟩
    | succ n ih =>
      intro hn
      obtain ⟨s, h1, h2, h3⟩ := ih (by omega)
      by_cases hp : pos n < p
      · refine ⟨n + 1, Nat.le_refl _, fun t ht => ?_, fun t h1 h2 => by omega⟩
        have := hs t n (by omega) (by omega)
        omega
      · refine ⟨s, by omega, h2, fun t a b => ?_⟩
        by_cases e : t = n
        · subst e; omega
        · exact h3 t a (by omega)
  obtain ⟨s, h1, h2, h3⟩ := hex L (Nat.le_refl _)
  have e : startAt pos L p = s := cntB_bound L h1 (fun t ht => by simpa using h2 t ht) (fun t a b => by simpa using h3 t a b)
  rw [e]
  exact ⟨h1, h2, h3⟩

theorem turn_eq {s t L : Nat} (hs : s ≤ L) (ht : t < L) : (s + t) % L = if s + t < L then s + t else s + t - L := by
  split
  · exact Nat.mod_eq_of_lt (by omega)
  · rw [Nat.mod_eq_sub_mod (by omega), Nat.mod_eq_of_lt (by omega)]

/-- Along the turn the keys rise. -/
theorem turn_key {pos : Nat → Int} {L : Nat} {p : Int} (hs : ∀ a b, a ≤ b → b < L → pos a ≤ pos b) (hp0 : 0 ≤ p) (hp1 : p < 18446744073709551616)
    (hb : ∀ j, j < L → 0 ≤ pos j ∧ pos j < 18446744073709551616) {t u : Nat} (htu : t < u) (hu : u < L) :
    dst pos p ((startAt pos L p + t) % L) < dst pos p ((startAt pos L p + u) % L) ∨
      (dst pos p ((startAt pos L p + t) % L) = dst pos p ((startAt pos L p + u) % L) ∧ (startAt pos L p + t) % L < (startAt pos L p + u) % L) := by
  obtain ⟨h1, h2, h3⟩ := start_is (p := p) hs
  generalize startAt pos L p = s at *
  rw [turn_eq h1 (by omega), turn_eq h1 hu]
  have hi : ∀ j, s ≤ j → j < L → dst pos p j = pos j - p := fun j a b => by
    have := h3 j a b; have := hb j b; unfold dst; omega
  have lo : ∀ j, j < s → dst pos p j = pos j - p + 18446744073709551616 := fun j a => by
    have := h2 j a; have := hb j (by omega); unfold dst; omega
  by_cases c1 : s + t < L
  · rw [if_pos c1, hi _ (by omega) c1]
    by_cases c2 : s + u < L
    · rw [if_pos c2, hi _ (by omega) c2]
      have := hs (s + t) (s + u) (by omega) c2
      omega
    · rw [if_neg c2, lo _ (by omega)]
      have := hb (s + t) c1
      have := hb (s + u - L) (by omega)
      omega
  · rw [if_neg c1, if_neg (by omega), lo _ (by omega), lo _ (by omega)]
    have := hs (s + t - L) (s + u - L) (by omega) (by omega)
    omega

/-- When the i-th was met. -/
theorem vis_time (q : Nat → Nat) : ∀ T i, i < (vis q T).length → ∃ t, t < T ∧ q t = (vis q T).getD i 0 ∧ (vis q t).length = i ∧ ¬ q t ∈ vis q t
  | 0, i, h => by simp [vis] at h
  | T + 1, i, h => by
    by_cases hm : q T ∈ vis q T
    · rw [vis_old hm] at h ⊢
      obtain ⟨t, h1, h2⟩ := vis_time q T i h
      exact ⟨t, by omega, h2⟩
    · rw [vis_new hm] at h ⊢
      by_cases hi : i < (vis q T).length
      · obtain ⟨t, h1, h2, h3⟩ := vis_time q T i hi
        refine ⟨t, by omega, ?_, h3⟩
        rw [h2]; simp [List.getD, List.getElem?_append_left hi]
      · have e : i = (vis q T).length := by simp at h; omega
        refine ⟨T, by omega, ?_, e.symm, hm⟩
        simp [List.getD, e]

theorem vis_mono {q : Nat → Nat} {t u : Nat} (h : (vis q t).length < (vis q u).length) : t < u := by
  rcases Nat.lt_or_ge t u with h' | h'
  · exact h'
  · have := (vis_prefix_le q h').length_le; omega

/-- The nearest point of the i-th node of the order is the one at which it was met. -/
theorem order_best {pos : Nat → Int} {nd : Nat → Nat} {L : Nat} {p : Int} (hs : ∀ a b, a ≤ b → b < L → pos a ≤ pos b) (hp0 : 0 ≤ p) (hp1 : p < 18446744073709551616)
    (hb : ∀ j, j < L → 0 ≤ pos j ∧ pos j < 18446744073709551616) {i : Nat} (hi : i < (ordr nd L (startAt pos L p)).length) :
    ∃ t, t < L ∧ (vis (rotq nd L (startAt pos L p)) t).length = i ∧
      bst pos nd p L ((ordr nd L (startAt pos L p)).getD i 0) = (dst pos p ((startAt pos L p + t) % L), (((startAt pos L p + t) % L : Nat) : Int)) := by
  obtain ⟨t, h1, h2, h3, h4⟩ := vis_time (rotq nd L (startAt pos L p)) L i hi
  refine ⟨t, h1, h3, ?_⟩
  have hst := (start_is (p := p) hs).1
  have hk := @turn_key pos L p hs hp0 hp1 hb
  unfold ordr
  rw [← h2]
  generalize startAt pos L p = s at *
  have hlt : (s + t) % L < L := Nat.mod_lt _ (by omega)
  rcases bst_is pos nd p (rotq nd L s t) L with ⟨_, hno⟩ | ⟨j0, g1, g2, g3, g4⟩
  · exact absurd rfl (hno ((s + t) % L) hlt)
  · rw [g3]
    have e0 : (s + (j0 + (L - s)) % L) % L = j0 := by
      rw [Nat.add_mod_mod, show s + (j0 + (L - s)) = j0 + L by omega, Nat.add_mod_right, Nat.mod_eq_of_lt g1]
    generalize ht0 : (j0 + (L - s)) % L = t0 at e0
    have ht0L : t0 < L := by rw [← ht0]; exact Nat.mod_lt _ (by omega)
    have hq : rotq nd L s t0 = rotq nd L s t := by
      show nd ((s + t0) % L) = _
      rw [e0, g2]
    have hge : t ≤ t0 := by
      rcases Nat.lt_or_ge t0 t with h | h
      · exact absurd ((vis_mem _ _ _).2 ⟨t0, h, hq⟩) h4
      · exact h
    have heq : t0 = t := by
      rcases Nat.lt_or_eq_of_le hge with h | h
      · have k1 := hk h ht0L
        rw [e0] at k1
        have k2 := g4 ((s + t) % L) hlt rfl
        omega
      · exact h.symm
    rw [← heq, e0]

theorem order_key {pos : Nat → Int} {nd : Nat → Nat} {L : Nat} {p : Int} (hs : ∀ a b, a ≤ b → b < L → pos a ≤ pos b) (hp0 : 0 ≤ p) (hp1 : p < 18446744073709551616)
    (hb : ∀ j, j < L → 0 ≤ pos j ∧ pos j < 18446744073709551616) {i : Nat} (hi : i + 1 < (ordr nd L (startAt pos L p)).length) :
    (bst pos nd p L ((ordr nd L (startAt pos L p)).getD i 0)).1 < (bst pos nd p L ((ordr nd L (startAt pos L p)).getD (i + 1) 0)).1 ∨
      ((bst pos nd p L ((ordr nd L (startAt pos L p)).getD i 0)).1 = (bst pos nd p L ((ordr nd L (startAt pos L p)).getD (i + 1) 0)).1 ∧
        (bst pos nd p L ((ordr nd L (startAt pos L p)).getD i 0)).2 < (bst pos nd p L ((ordr nd L (startAt pos L p)).getD (i + 1) 0)).2) := by
  obtain ⟨t, h1, h2, h3⟩ := order_best (nd := nd) (i := i) hs hp0 hp1 hb (by omega)
  obtain ⟨u, g1, g2, g3⟩ := order_best (nd := nd) (i := i + 1) hs hp0 hp1 hb hi
  have htu : t < u := vis_mono (q := rotq nd L (startAt pos L p)) (by omega)
  have hk := @turn_key pos L p hs hp0 hp1 hb t u htu g1
  rw [h3, g3]
  simp only []
  omega

end Go.Proofs.Qxb6608942aDoor
