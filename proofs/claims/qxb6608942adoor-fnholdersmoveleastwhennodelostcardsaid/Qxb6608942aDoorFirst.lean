import Derived.Test.Qxb6608942aDoorHolders
import Derived.Test.Qxb6608942aDoorStops
namespace Go.Proofs.Qxb6608942aDoor
open Go.RowKit

theorem hold_of_take {D : List Nat} {us : Nat → Bool} {R k : Nat} (h1 : ((D.take k).filter us).length ≤ R) (h2 : D.length ≤ k ∨ R ≤ ((D.take k).filter us).length) : (D.take k).filter us = hold D us R := by
  unfold hold
  rcases h2 with h2 | h2
  · rw [List.take_of_length_le h2] at h1 ⊢
    rw [List.take_of_length_le h1]
  · have e : D.filter us = (D.take k).filter us ++ (D.drop k).filter us := by rw [← List.filter_append, List.take_append_drop]
    rw [e, List.take_left' (by omega)]

set_option maxHeartbeats 800000 in
/-- zzFirstUsable. -/
theorem firstUsable_any (ao ab : Option Addr) (co n cb R : Nat) (D : List Nat) (us : Nat → Bool) (w : World) (hD : D.length ≤ 65536) (hn : n ≤ 1000000) (hR1 : 1 ≤ R) (hR : R ≤ 1000000) (hlt : ∀ x, x ∈ D → x < n)
    (ho : Rd w ao D.length (fun i => .int .i64 ((D.getD i 0 : Nat) : Int))) (hu : Rd w ab n (fun i => .bool (us i))) :
    Calls Tryd.prog 20 #[.slice ao D.length co, .slice ab n cb, .int .i64 (R : Int)] w fun e w' =>
      ∃ ah ch, e = .returned (.slice ah (hold D us R).length ch) ∧ Rd w' ah (hold D us R).length (fun i => .int .i64 (((hold D us R).getD i 0 : Nat) : Int)) ∧ Below w.heap.size w w' := by
  have HO : Hid (Rd w ao D.length (fun i => .int .i64 ((D.getD i 0 : Nat) : Int))) := ho
  have HU : Hid (Rd w ab n (fun i => .bool (us i))) := hu
  have HLT : Hid (∀ x, x ∈ D → x < n) := hlt
  clear ho hu hlt
  obtain ⟨i0, hi0, hz0, hz1, hz2⟩ := info_parts Tryd.info3
  obtain ⟨N, hN⟩ : ∃ N, N = D.length := ⟨_, rfl⟩
  have HN : Hid (N = D.length) := hN
  rw [← hN] at HO ⊢ hD
  clear hN
  go_enter Tryd.func20, Tryd.ntmps20
  go_wp2_with (at_make; refine wpList_make_own _ rfl _ _ 23 rfl w.heap.size 3 i0 (.int .i64 0) 1 Tryd.underlying23 hi0 hz0 hz1 _ _ _ N rfl rfl rfl (by rw [hz2]; omega) (by unfold maxLen; omega) (Nat.le_refl _) ?_; intro w1 hown hg1)
  have hB1 : Below w.heap.size w w1 := (Below.refl _ _).grown hg1 (Nat.le_refl _) (fun k h => by cases h)
  clear hg1
  go_loopw [7, 8] (fun v i wr => ∃ (k m : Nat) (l : List Nat) (av : Option Addr) (cv : Nat), k ≤ N ∧ m ≤ R ∧ m ≤ k ∧ i = .int .i64 k ∧ v = .slice av m cv ∧ Hid (l = (D.take k).filter us ∧ l.length = m) ∧
      Hid (wr.ownsRow w.heap.size 3 1 (.slice av m cv) m (l.map (fun x : Nat => Value.int .i64 (x : Int)))) ∧ Hid (Below w.heap.size w wr)) (fun _ i _ => N - (intOf i).toNat)
  case atStart => exact ⟨0, 0, [], _, _, Nat.zero_le _, Nat.zero_le _, Nat.zero_le _, rfl, rfl, ⟨by simp, rfl⟩, hown, hB1⟩
  clear hown hB1
  obtain ⟨k, m, l, av, cv, hk, hmR, hmk, rfl, rfl, HL, HOWN, HBL⟩ := hrel
  by_cases hgo : k < N ∧ m < R
  · obtain ⟨hlt, hmlt⟩ := hgo
    obtain ⟨bo, oo, rfl, hco⟩ := HO.out.below HBL.out (by omega)
    have hkD : k < D.length := by have := HN.out; omega
    have hxn := HLT.out _ (getD_mem hkD)
    obtain ⟨bu, ou, rfl, hcu⟩ := HU.out.below HBL.out (by omega)
    obtain ⟨x, hx⟩ : ∃ x, x = D.getD k 0 := ⟨_, rfl⟩
    have c1 : wr.cell? ⟨bo, oo + k, none⟩ = some (.int .i64 (x : Int)) := by rw [hx]; exact hco k hlt
    rw [← hx] at hxn
    have c2 : wr.cell? ⟨bu, ou + x, none⟩ = some (.bool (us x)) := hcu x hxn
    have hlo := HO.out.lt (by omega)
    have hlu := HU.out.lt (by omega)
    have hlt1 : (k : Int) < (N : Int) := by omega
    have hmlt1 : (m : Int) < (R : Int) := by omega
    have hxI : (x : Int) < (n : Int) := by omega
    have hsz := HBL.out.size
    have htk : D.take (k + 1) = D.take k ++ [x] := by rw [take_snoc_getD hkD, hx]
    clear hco hcu hx
    cases hus : us x <;> rw [hus] at c2
    · have HL2 : Hid (l = (D.take (k + 1)).filter us ∧ l.length = m) := ⟨by rw [htk, filter_no hus]; exact HL.out.1, HL.out.2⟩
      clear hus htk
      go_wp2
      go_roundw
      case rel => exact ⟨k + 1, m, l, av, cv, by omega, by omega, by omega, by go_num, rfl, HL2, HOWN, HBL⟩
      case measure => simp [intOf]; omega
    · have HL2 : Hid (l ++ [x] = (D.take (k + 1)).filter us ∧ (l ++ [x]).length = m + 1) := ⟨by rw [htk, filter_yes hus, ← HL.out.1], by simp [HL.out.2]⟩
      clear hus htk
      go_wp2_with (at_builtin; refine wpList_append_own _ rfl _ _ 23 rfl w.heap.size 3 i0 (.int .i64 0) 1 8 Tryd.underlying23 hi0 hz0 hz1 hz2 rfl (by decide) _ _ _ rfl (HOWN.out.alloc _) ⟨wr.heap.size, 0, none⟩ 1 1 [.int .i64 (x : Int)] rfl rfl (cell_one_new _ _ _) ?c2 ?c3 ?c4 ?c5 ?_)
      case c2 => first | rfl | (intro u hu; simp at hu; subst hu; rfl)
      case c3 => unfold maxLen; omega
      case c4 => omega
      case c5 => first | omega | (simp; omega)
      intro v' w2 hown' hgrow _
      have HBL2 : Hid (Below w.heap.size w w2) := (HBL.out.alloc hsz _).grown hgrow (by simp; omega) (fun j h => (HOWN.out.lt j h).1)
      obtain ⟨av2, cv2, rfl⟩ := ownsRow_shape hown'
      have HOWN2 : Hid (w2.ownsRow w.heap.size 3 1 (.slice av2 (m + 1) cv2) (m + 1) ((l ++ [x]).map (fun x : Nat => Value.int .i64 (x : Int)))) := by
        show World.ownsRow _ _ _ _ _ _ _
        simpa using hown'
      clear hown' hgrow c1 c2
      go_wp2
      go_roundw
      case rel => exact ⟨k + 1, m + 1, l ++ [x], av2, cv2, by omega, by omega, by omega, by go_num, rfl, HL2, HOWN2, HBL2⟩
      case measure => simp [intOf]; omega
  · have HE : Hid (l = hold D us R) := by
      show _ = _
      rw [HL.out.1]
      have h1 := HL.out.2
      rw [HL.out.1] at h1
      exact hold_of_take (by omega) (by have := HN.out; omega)
    have fin : ∃ ah ch, Ending.returned (.slice av m cv) = .returned (.slice ah (hold D us R).length ch) ∧ Rd wr ah (hold D us R).length (fun i => .int .i64 (((hold D us R).getD i 0 : Nat) : Int)) ∧ Below w.heap.size w wr := by
      obtain ⟨ah, ch, e, hrd⟩ := owns_reads_n HL.out.2.symm HOWN.out
      rw [← HE.out]
      exact ⟨ah, ch, by rw [e], hrd, HBL.out⟩
    have HFIN : Hid (∃ ah ch, Ending.returned (.slice av m cv) = .returned (.slice ah (hold D us R).length ch) ∧ Rd wr ah (hold D us R).length (fun i => .int .i64 (((hold D us R).getD i 0 : Nat) : Int)) ∧ Below w.heap.size w wr) := fin
    clear fin HE HL HOWN HBL
    by_cases hlt : k < N
    · have hge : (R : Int) ≤ (m : Int) := by omega
      have hlt1 : (k : Int) < (N : Int) := by omega
      clear hgo
      go_wp2
      go_ret
      exact HFIN.out
    · have hge : (N : Int) ≤ (k : Int) := by omega
      have hd : decide ((k : Int) < (N : Int)) = false := by simp; omega
      clear hgo
      go_wp2
      go_ret
      exact HFIN.out

end Go.Proofs.Qxb6608942aDoor
