import Derived.Test.Qxb6608942aDoorStops
namespace Go.Proofs.Qxb6608942aDoor

theorem cutL_prefix2 (cont : List Nat → Bool) : ∀ (xs acc : List Nat), cutL cont acc xs <+: acc ++ xs
  | [], acc => by simp [cutL]
  | x :: xs, acc => by
    unfold cutL
    split
    · have := cutL_prefix2 cont xs (acc ++ [x])
      simpa using this
    · exact ⟨xs, by simp⟩
theorem halt_prefix2 (D : List Nat) (st : Nat → Bool) : halt D st <+: D := by have h := cutL_prefix2 (onward st) D []; rwa [List.nil_append] at h

/-- All up to the first that says stop, that one with it. -/
def upTo (st : Nat → Bool) : List Nat → List Nat
  | [] => []
  | x :: xs => if st x = true then [x] else x :: upTo st xs

theorem cut_upTo (st : Nat → Bool) : ∀ (xs acc : List Nat), cutL (onward st) acc xs = acc ++ upTo st xs
  | [], acc => by simp [cutL, upTo]
  | x :: xs, acc => by
    unfold cutL upTo
    rw [onward_snoc]
    cases h : st x
    · simp [cut_upTo st xs]
    · simp
theorem halt_upTo (D : List Nat) (st : Nat → Bool) : halt D st = upTo st D := by
  unfold halt
  rw [cut_upTo, List.nil_append]

theorem upTo_two (f g : Nat → Bool) : ∀ xs, upTo (fun x => f x || g x) xs = if (upTo f xs).length ≤ (upTo g xs).length then upTo f xs else upTo g xs
  | [] => by simp [upTo]
  | x :: xs => by
    have ih := upTo_two f g xs
    unfold upTo
    cases hf : f x
    · cases hg : g x
      · simp only [Bool.or_self, Bool.false_eq_true, if_false, List.length_cons, Nat.add_le_add_iff_right]
        rw [ih]
        split <;> rfl
      · simp only [Bool.or_true, if_true, Bool.false_eq_true, if_false, List.length_cons, List.length_nil]
        split
        · next h =>
          have : upTo f xs = [] := List.eq_nil_of_length_eq_zero (by omega)
          rw [this]
        · rfl
    · simp only [Bool.true_or, if_true, List.length_cons, List.length_nil]
      rw [if_pos]
      cases hg : g x
      · simp
      · simp

theorem halt_two (D : List Nat) (f g : Nat → Bool) : halt D (fun x => f x || g x) = if (halt D f).length ≤ (halt D g).length then halt D f else halt D g := by
  rw [halt_upTo, halt_upTo, halt_upTo]
  exact upTo_two f g D
end Go.Proofs.Qxb6608942aDoor
