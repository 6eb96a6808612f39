import Derived.Test.Qxb6608942aDoorTail
namespace Go.Proofs.Qxb6608942aDoor
open Go.RowKit

set_option maxHeartbeats 400000 in
/-- The mask as a function: ZZHolders$1. -/
theorem usable_any (mb : Nat) (ab : Option Addr) (n cb : Nat) (us : Nat → Bool) (x : Nat) (w : World) (hx : x < n)
    (hm : w.cell? ⟨mb, 0, none⟩ = some (.slice ab n cb)) (hr : Rd w ab n (fun i => .bool (us i))) :
    Calls Tryd.prog 35 #[.int .i64 (x : Int), .pointer (some ⟨mb, 0, none⟩)] w fun e w' => e = .returned (.bool (us x)) ∧ w' = w := by
  obtain ⟨b, off, rfl, hc⟩ := hr (by omega)
  have c1 := hc x hx
  have hxI : (x : Int) < (n : Int) := by omega
  clear hc hr
  go_enter Tryd.func35, Tryd.ntmps35
  go_wp2
  go_ret
  exact ⟨rfl, rfl⟩

theorem usable_is (b : Bool) (mb : Nat) (ab : Option Addr) (n cb : Nat) (us : Nat → Bool) (x : Nat) (w : World) (hx : x < n) (hb : us x = b)
    (hm : w.cell? ⟨mb, 0, none⟩ = some (.slice ab n cb)) (hr : Rd w ab n (fun i => .bool (us i))) :
    Calls Tryd.prog 35 #[.int .i64 (x : Int), .pointer (some ⟨mb, 0, none⟩)] w fun e w' => e = .returned (.bool b) ∧ w' = w := by
  subst hb
  exact usable_any mb ab n cb us x w hx hm hr

/-- A block of another type than ints, or below base, is as it was. -/
theorem Same.keep {base ob : Nat} {w w' : World} (h : Same base ob w w') {b : Nat} {cs : Array Value} {t : TypeId} {fr : Nat × Nat} (hb : w.heap[b]? = some (.cells cs t fr)) (ho : b ≠ ob) (ht : t ≠ 3) : w'.heap[b]? = some (.cells cs t fr) := by
  rw [h.block b (lt_of_block hb) ho (.inr ?_)]
  · exact hb
  · rintro ⟨cs', fr', hc⟩
    rw [hb] at hc
    simp only [Option.some.injEq, Obj.cells.injEq] at hc
    exact ht hc.2.1

theorem filter_yes {us : Nat → Bool} {l : List Nat} {x : Nat} (h : us x = true) : (l ++ [x]).filter us = l.filter us ++ [x] := by simp [List.filter_append, h]
theorem filter_no {us : Nat → Bool} {l : List Nat} {x : Nat} (h : us x = false) : (l ++ [x]).filter us = l.filter us := by simp [List.filter_append, h]

set_option maxHeartbeats 800000 in
/-- Holders' visitor. -/
theorem holders_visit (base ob ub xb rb mb : Nat) (ab : Option Addr) (n cb R : Nat) (us : Nat → Bool) (l : List Nat) (x : Nat) (w : World) (hl : l.length ≤ 1000000) (hbo : base ≤ ob) (hx : x < n)
    (hu : w.heap[ub]? = some (.cells #[.func (.func 35) #[] #[.pointer (some ⟨mb, 0, none⟩)]] 53 (0, 0))) (hxb : w.heap[xb]? = some (.cells #[.pointer (some ⟨rb, 0, none⟩)] 29 (0, 0))) (hxo : xb ≠ ob)
    (hR : w.cell? ⟨rb, 2, none⟩ = some (.int .i64 R)) (hrb : rb < base)
    (hm : w.cell? ⟨mb, 0, none⟩ = some (.slice ab n cb)) (hr : Rd w ab n (fun i => .bool (us i))) (hi : InvRow ob base (l.filter us) w) :
    Calls Tryd.prog 40 #[.int .i64 (x : Int), .pointer (some ⟨ub, 0, none⟩), .pointer (some ⟨ob, 0, none⟩), .pointer (some ⟨xb, 0, none⟩)] w fun e w' =>
      e = .returned (.bool (decide (((l ++ [x]).filter us).length < R))) ∧ InvRow ob base ((l ++ [x]).filter us) w' ∧ Same base ob w w' := by
  obtain ⟨v, hv, hown⟩ := hi
  have c0 := cell_of_one hv
  have f0 := free_of_one hv
  have c1 := cell_of_one hu
  have c2 := cell_of_one hxb
  have HV : Hid (w.heap[ob]? = some (.cells #[v] 23 (0, 0))) := hv
  have HXB : Hid (w.heap[xb]? = some (.cells #[.pointer (some ⟨rb, 0, none⟩)] 29 (0, 0))) := hxb
  have HM : Hid (w.cell? ⟨mb, 0, none⟩ = some (.slice ab n cb)) := hm
  have HR : Hid (Rd w ab n (fun i => .bool (us i))) := hr
  have hob := lt_of_block hv
  have hlen : (l.filter us).length ≤ 1000000 := Nat.le_trans (List.length_filter_le _ _) hl
  obtain ⟨i0, hi0, hz0, hz1, hz2⟩ := info_parts Tryd.info3
  clear hv hu hxb hm hr
  cases hus : us x
  · rw [filter_no hus]
    have HUS : Hid (us x = false) := hus
    clear hus
    obtain ⟨ao, cap, rfl⟩ := ownsRow_shape hown
    go_enter Tryd.func40, Tryd.ntmps40
    go_wp2_with fail
    refine (usable_is false mb ab n cb us x _ hx HUS.out HM.out HR.out).mono ?_
    rintro e w1 ⟨rfl, hw1⟩
    obtain rfl : w = w1 := hw1.symm
    clear hw1
    go_wp2
    go_quiet (fail)
    go_wp2
    go_ret
    exact ⟨by simp, ⟨_, HV.out, hown⟩, (Same.refl _ _ _).drewN _⟩
  · rw [filter_yes hus]
    have HUS : Hid (us x = true) := hus
    clear hus
    go_enter Tryd.func40, Tryd.ntmps40
    go_wp2_with fail
    refine (usable_is true mb ab n cb us x _ hx HUS.out HM.out HR.out).mono ?_
    rintro e w1 ⟨rfl, hw1⟩
    obtain rfl : w = w1 := hw1.symm
    clear hw1
    go_wp2_with (at_builtin; refine wpList_append_own _ rfl _ _ 23 rfl base 3 i0 (.int .i64 0) 1 8 Tryd.underlying23 hi0 hz0 hz1 hz2 rfl (by decide) _ _ _ rfl (hown.alloc _) ⟨w.heap.size, 0, none⟩ 1 1 [.int .i64 (x : Int)] rfl rfl (cell_one_new _ _ _) ?c2 ?c3 ?c4 ?c5 ?_)
    case c2 => intro u hu; simp at hu; subst hu; rfl
    case c3 => unfold maxLen; omega
    case c4 => omega
    case c5 => simp; omega
    intro v' w1 hown' hgrow _
    obtain ⟨n1, n2, n3⟩ := noted hbo HV.out hown hown' hgrow
    have d0 := cell_of_one n1
    have g0 := free_of_one n1
    obtain ⟨ao, cap, rfl⟩ := ownsRow_shape hown'
    have k1 := cell_of_one (n3.keep HXB.out hxo (by decide))
    have k2 : (w1.setCell ⟨ob, 0, none⟩ (.slice ao ((l.filter us).length + 1) cap)).cell? ⟨rb, 2, none⟩ = some (.int .i64 R) := by
      rw [World.cell?_of_block (w := w) (n3.block rb (by omega) (by omega) (.inl hrb))]
      exact hR
    have k3 := cell_of_one (one_setCell (u := .slice ao ((l.filter us).length + 1) cap) n1)
    clear hown' hgrow c0 f0
    go_wp2
    generalize w1.setCell ⟨ob, 0, none⟩ (.slice ao ((l.filter us).length + 1) cap) = W2 at *
    go_quiet (fail)
    go_wp2
    go_ret
    exact ⟨by simp; omega, n2.drewN _, n3.drewN _⟩

/-- Go on while fewer than R of the nodes met are usable. -/
def fewer (us : Nat → Bool) (R : Nat) (l : List Nat) : Bool := decide ((l.filter us).length < R)

theorem cut_fewer (us : Nat → Bool) (R : Nat) : ∀ (xs acc : List Nat), (acc.filter us).length < R → (cutL (fewer us R) acc xs).filter us = (acc.filter us) ++ (xs.filter us).take (R - (acc.filter us).length)
  | [], acc, _ => by simp [cutL]
  | x :: xs, acc, h => by
    unfold cutL
    cases hus : us x
    · have hf : fewer us R (acc ++ [x]) = true := by unfold fewer; rw [filter_no hus]; simpa using h
      rw [if_pos hf, cut_fewer us R xs (acc ++ [x]) (by rw [filter_no hus]; exact h), filter_no hus]
      simp [hus]
    · by_cases hc : (acc.filter us).length + 1 < R
      · have hf : fewer us R (acc ++ [x]) = true := by unfold fewer; rw [filter_yes hus]; simpa using hc
        rw [if_pos hf, cut_fewer us R xs (acc ++ [x]) (by rw [filter_yes hus]; simpa using hc), filter_yes hus]
        have e : R - (acc.filter us).length = (R - (acc.filter us ++ [x]).length) + 1 := by simp; omega
        rw [e]
        simp [hus]
      · have hf : ¬ fewer us R (acc ++ [x]) = true := by unfold fewer; rw [filter_yes hus]; simpa using hc
        rw [if_neg hf, filter_yes hus]
        have e : R - (acc.filter us).length = 1 := by omega
        rw [e]
        simp [hus]

/-- The holders: the first R usable nodes of the order. -/
def hold (D : List Nat) (us : Nat → Bool) (R : Nat) : List Nat := (D.filter us).take R

theorem cut_hold {us : Nat → Bool} {R : Nat} {D : List Nat} (hR : 1 ≤ R) : (cutL (fewer us R) [] D).filter us = hold D us R := by
  rw [cut_fewer us R D [] (by simp; omega)]
  simp [hold]

theorem two_boxes {w w1 : World} {A B : Obj} (hg : ((w.alloc A).alloc B).grownBy w1 none) :
    w1.heap[w.heap.size]? = some A ∧ w1.heap[w.heap.size + 1]? = some B ∧ Below w.heap.size w w1 ∧ w.heap.size + 2 ≤ w1.heap.size := by
  have hs : w.heap.size + 1 + 1 ≤ w1.heap.size := by have := hg.size; simpa using this
  refine ⟨?_, ?_, (((Below.refl _ w).alloc (Nat.le_refl _) A).alloc (by simp) B).grown hg (by simp; omega) (fun k h => by cases h), hs⟩
  · rw [hg.block w.heap.size (by simp; omega) (fun e => by cases e), Below.heap_alloc _ _ _ (by simp)]
    exact heap_alloc_new w _
  · rw [hg.block (w.heap.size + 1) (by simp) (fun e => by cases e)]
    have := heap_alloc_new (w.alloc A) B
    rwa [World.size_alloc] at this

set_option maxHeartbeats 800000 in
/-- (*Ring).Holders, the mask by ZZHolders' closure. -/
theorem holders_any (s : ByteArray) (rb pb L N R mb : Nat) (ab : Option Addr) (n cb : Nat) (us : Nat → Bool) (pos : Nat → Int) (nd : Nat → Nat) (w : World)
    (hs : s.size ≤ maxLen) (h16 : 16 ≤ s.size) (hx : hexTo s 16)
    (hr : RingAt w rb pb L N R pos (fun i => (nd i : Int))) (hrb : rb < w.heap.size) (hpb : pb < w.heap.size)
    (hL : L ≤ 1000000) (hN : N ≤ 1000000) (hg : Good L N pos nd) (hR1 : 1 ≤ R) (hR : R ≤ 1000000) (hn : N ≤ n)
    (hm : w.cell? ⟨mb, 0, none⟩ = some (.slice ab n cb)) (hu : Rd w ab n (fun i => .bool (us i))) :
    Calls Tryd.prog 34 #[.pointer (some ⟨rb, 0, none⟩), .string s, .func (.func 35) #[] #[.pointer (some ⟨mb, 0, none⟩)]] w fun e w' =>
      ∃ ao cap, e = .returned (.slice ao (hold (ordP L pos nd (pvTo s 16)) us R).length cap) ∧ Rd w' ao (hold (ordP L pos nd (pvTo s 16)) us R).length (fun i => .int .i64 (((hold (ordP L pos nd (pvTo s 16)) us R).getD i 0 : Nat) : Int)) ∧ Below w.heap.size w w' := by
  have HX : Hid (hexTo s 16) := hx
  have HRG : Hid (RingAt w rb pb L N R pos (fun i => (nd i : Int))) := hr
  have HG : Hid (Good L N pos nd) := hg
  have HM : Hid (w.cell? ⟨mb, 0, none⟩ = some (.slice ab n cb)) := hm
  have HU : Hid (Rd w ab n (fun i => .bool (us i))) := hu
  have q2 := hr.h2
  clear hx hr hg hm hu
  obtain ⟨i0, hi0, hz0, hz1, hz2⟩ := info_parts Tryd.info3
  go_enter Tryd.func34, Tryd.ntmps34
  go_wp2_with (at_make; refine wpList_make_own _ rfl _ _ 23 rfl w.heap.size 3 i0 (.int .i64 0) 1 Tryd.underlying23 hi0 hz0 hz1 _ _ _ R rfl rfl rfl (by rw [hz2]; omega) (by unfold maxLen; omega) (by simp; omega) ?_; intro w1 hown hg1; obtain ⟨x1, x2, x3, x4⟩ := two_boxes hg1; have k1 := cell_of_one x1; have k4 : w.heap.size < w1.heap.size := by omega)
  simp only [World.size_alloc] at hown
  have hsz1 : w.heap.size ≤ w1.heap.size := by omega
  have hB : Below w.heap.size w (w1.alloc (Obj.cells #[Value.slice (some ⟨w.heap.size + 1 + 1, 0, none⟩) 0 R] 23)) := x3.alloc hsz1 _
  have y1 : (w1.alloc (Obj.cells #[Value.slice (some ⟨w.heap.size + 1 + 1, 0, none⟩) 0 R] 23)).heap[w.heap.size]? = _ := (Below.heap_alloc _ _ _ (by omega)).trans x1
  have y2 : (w1.alloc (Obj.cells #[Value.slice (some ⟨w.heap.size + 1 + 1, 0, none⟩) 0 R] 23)).heap[w.heap.size + 1]? = _ := (Below.heap_alloc _ _ _ (by omega)).trans x2
  have hI : InvRow w1.heap.size w.heap.size ((fun l : List Nat => l.filter us) []) (w1.alloc (Obj.cells #[Value.slice (some ⟨w.heap.size + 1 + 1, 0, none⟩) 0 R] 23)) := ⟨_, heap_alloc_new w1 _, hown.alloc _⟩
  refine (walk_any 40 #[.pointer (some ⟨w.heap.size + 1, 0, none⟩), .pointer (some ⟨w1.heap.size, 0, none⟩), .pointer (some ⟨w.heap.size, 0, none⟩)] w.heap.size w1.heap.size s rb pb L N R pos nd (fun l => l.filter us) (fewer us R) _ (enters_body Tryd.func40 (by kernel_rfl) rfl) hs h16 HX.out
    (HRG.out.below hB hrb hpb) hrb hpb hsz1 (by simp) hL hN HG.out.sorted HG.out.range HG.out.all (fun acc x wv hpre hsame hinv => ?_) hI).mono ?_
  · have hlen : acc.length + 1 ≤ N := by
      have h1 := hpre.length_le
      have h2 : (ordr nd L (startAt pos L (pvTo s 16))).length = N := ordP_len HG.out _
      simp at h1
      omega
    have hxN : x < N := ordP_lt HG.out (pvTo s 16) x (hpre.subset (by simp))
    have hBv : Below w.heap.size w wv := hB.trans (hsame.below (by simp; omega) hsz1)
    exact holders_visit w.heap.size w1.heap.size (w.heap.size + 1) w.heap.size rb mb ab n cb R us acc x wv (by omega) hsz1 (by omega)
      (hsame.keep y2 (by omega) (by decide)) (hsame.keep y1 (by omega) (by decide)) (by omega)
      ((hBv.cell (p := ⟨rb, 2, none⟩) hrb).trans q2) hrb ((hBv.cell (p := ⟨mb, 0, none⟩) (World.block_lt_of_cell? _ _ HM.out)).trans HM.out) (HU.out.below hBv) hinv
  · rintro e w2 ⟨rfl, hi2, hs2⟩
    obtain ⟨ao, cap, hc, hrd⟩ := hi2.reads
    rw [show (List.filter us (cutL (fewer us R) [] (ordr nd L (startAt pos L (pvTo s 16))))) = hold (ordP L pos nd (pvTo s 16)) us R from cut_hold hR1] at hc hrd
    have HRD : Hid (Rd w2 ao (hold (ordP L pos nd (pvTo s 16)) us R).length (fun i => .int .i64 (((hold (ordP L pos nd (pvTo s 16)) us R).getD i 0 : Nat) : Int))) := hrd
    have HBE : Hid (Below w.heap.size w w2) := hB.trans (hs2.below (by simp; omega) hsz1)
    clear hi2 hs2 hB hI hown hg1 x1 x2 x3 y1 y2 k1 hrd
    go_wp2
    go_ret
    exact ⟨ao, cap, rfl, HRD.out, HBE.out⟩

set_option maxHeartbeats 400000 in
/-- ZZHolders. -/
theorem zzHolders_any (s : ByteArray) (rb pb L N R : Nat) (ab : Option Addr) (n cb : Nat) (us : Nat → Bool) (pos : Nat → Int) (nd : Nat → Nat) (w : World)
    (hs : s.size ≤ maxLen) (h16 : 16 ≤ s.size) (hx : hexTo s 16)
    (hr : RingAt w rb pb L N R pos (fun i => (nd i : Int))) (hrb : rb < w.heap.size) (hpb : pb < w.heap.size)
    (hL : L ≤ 1000000) (hN : N ≤ 1000000) (hg : Good L N pos nd) (hR1 : 1 ≤ R) (hR : R ≤ 1000000) (hn : N ≤ n) (hu : Rd w ab n (fun i => .bool (us i))) :
    Calls Tryd.prog 19 #[.pointer (some ⟨rb, 0, none⟩), .string s, .slice ab n cb] w fun e w' =>
      ∃ ao cap, e = .returned (.slice ao (hold (ordP L pos nd (pvTo s 16)) us R).length cap) ∧ Rd w' ao (hold (ordP L pos nd (pvTo s 16)) us R).length (fun i => .int .i64 (((hold (ordP L pos nd (pvTo s 16)) us R).getD i 0 : Nat) : Int)) ∧ Below w.heap.size w w' := by
  have HX : Hid (hexTo s 16) := hx
  have HRG : Hid (RingAt w rb pb L N R pos (fun i => (nd i : Int))) := hr
  have HG : Hid (Good L N pos nd) := hg
  have HU : Hid (Rd w ab n (fun i => .bool (us i))) := hu
  clear hx hr hg hu
  go_enter Tryd.func19, Tryd.ntmps19
  go_wp2_with fail
  have hB : Below w.heap.size w (w.alloc (Obj.cells #[Value.slice ab n cb] 35)) := (Below.refl _ _).alloc (Nat.le_refl _) _
  refine (holders_any s rb pb L N R w.heap.size ab n cb us pos nd _ hs h16 HX.out (HRG.out.below hB hrb hpb) (by simp; omega) (by simp; omega) hL hN HG.out hR1 hR hn (by rw [World.cell?_alloc_at _ _ _ _ (by simp)]; rfl) (HU.out.below hB)).mono ?_
  rintro e w1 ⟨ao, cap, rfl, hrd, hb1⟩
  have HRD : Hid (Rd w1 ao (hold (ordP L pos nd (pvTo s 16)) us R).length (fun i => .int .i64 (((hold (ordP L pos nd (pvTo s 16)) us R).getD i 0 : Nat) : Int))) := hrd
  have HBE : Hid (Below w.heap.size w w1) := hB.trans (hb1.mono (by simp))
  clear hrd hb1 hB
  go_wp2
  go_ret
  exact ⟨ao, cap, rfl, HRD.out, HBE.out⟩

end Go.Proofs.Qxb6608942aDoor
