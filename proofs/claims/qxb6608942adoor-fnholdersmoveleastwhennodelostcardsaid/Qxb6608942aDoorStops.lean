import Derived.Test.Qxb6608942aDoorTail
namespace Go.Proofs.Qxb6608942aDoor
open Go.RowKit

/-- Go on unless the last node met says stop. -/
def onward (st : Nat → Bool) (l : List Nat) : Bool := !st (l.getLastD 0)

set_option maxHeartbeats 800000 in
/-- ZZwalk's visitor: it notes the node, and goes on where the mask does not say stop. -/
theorem stop_visit (base ob mb : Nat) (ab : Option Addr) (n cb : Nat) (st : Nat → Bool) (l : List Nat) (x : Nat) (w : World) (hl : l.length ≤ 1000000) (hbo : base ≤ ob) (hx : x < n)
    (hm : w.heap[mb]? = some (.cells #[.slice ab n cb] 35 (0, 0))) (hmo : mb ≠ ob) (hab : ∀ b off, ab = some ⟨b, off, none⟩ → b < base)
    (hr : Rd w ab n (fun i => .bool (st i))) (hi : InvRow ob base l w) :
    Calls Tryd.prog 36 #[.int .i64 (x : Int), .pointer (some ⟨ob, 0, none⟩), .pointer (some ⟨mb, 0, none⟩)] w fun e w' => e = .returned (.bool (!st x)) ∧ InvRow ob base (l ++ [x]) w' ∧ Same base ob w w' := by
  obtain ⟨v, hv, hown⟩ := hi
  have c0 := cell_of_one hv
  have f0 := free_of_one hv
  have HV : Hid (w.heap[ob]? = some (.cells #[v] 23 (0, 0))) := hv
  have HM : Hid (w.heap[mb]? = some (.cells #[.slice ab n cb] 35 (0, 0))) := hm
  have hob := lt_of_block hv
  have hbs : base ≤ w.heap.size := by omega
  obtain ⟨b, off, rfl, hc⟩ := hr (by omega)
  have c1 := hc x hx
  have hbb := hab b off rfl
  have hxI : (x : Int) < (n : Int) := by omega
  obtain ⟨i0, hi0, hz0, hz1, hz2⟩ := info_parts Tryd.info3
  clear hv hm hr hc hab
  go_enter Tryd.func36, Tryd.ntmps36
  go_wp2_with (at_builtin; refine wpList_append_own _ rfl _ _ 23 rfl base 3 i0 (.int .i64 0) 1 8 Tryd.underlying23 hi0 hz0 hz1 hz2 rfl (by decide) _ _ _ rfl (hown.alloc _) ⟨w.heap.size, 0, none⟩ 1 1 [.int .i64 (x : Int)] rfl rfl (cell_one_new _ _ _) ?c2 ?c3 ?c4 ?c5 ?_)
  case c2 => first | rfl | (intro u hu; simp at hu; subst hu; rfl)
  case c3 => unfold maxLen; omega
  case c4 => omega
  case c5 => first | omega | (simp; omega)
  intro v' w1 hown' hgrow _
  obtain ⟨n1, n2, n3⟩ := noted hbo HV.out hown hown' hgrow
  have d0 := cell_of_one n1
  have g0 := free_of_one n1
  obtain ⟨ao, cap, rfl⟩ := ownsRow_shape hown'
  have k1 : (w1.setCell ⟨ob, 0, none⟩ (.slice ao (l.length + 1) cap)).heap[mb]? = some (.cells #[.slice (some ⟨b, off, none⟩) n cb] 35 (0, 0)) := by
    rw [n3.block mb (lt_of_block HM.out) hmo (.inr (by rintro ⟨cs, fr, hc⟩; rw [HM.out] at hc; simp at hc))]
    exact HM.out
  have k2 := cell_of_one k1
  have k3 : (w1.setCell ⟨ob, 0, none⟩ (.slice ao (l.length + 1) cap)).cell? ⟨b, off + x, none⟩ = some (.bool (st x)) := by
    rw [World.cell?_of_block (w := w) (n3.block b (by omega) (by omega) (.inl hbb))]
    exact c1
  clear hown' hgrow c0 f0 c1 k1
  go_wp2
  go_ret
  exact ⟨rfl, n2, n3⟩

theorem onward_snoc (st : Nat → Bool) (l : List Nat) (x : Nat) : onward st (l ++ [x]) = !st x := by
  unfold onward
  simp

/-- Where the walk that stops as st says comes to. -/
def halt (D : List Nat) (st : Nat → Bool) : List Nat := cutL (onward st) [] D

set_option maxHeartbeats 800000 in
/-- ZZwalk. -/
theorem zzWalk_any (s : ByteArray) (rb pb L N R : Nat) (ab : Option Addr) (n cb : Nat) (st : Nat → Bool) (pos : Nat → Int) (nd : Nat → Nat) (w : World)
    (hs : s.size ≤ maxLen) (h16 : 16 ≤ s.size) (hx : hexTo s 16)
    (hr : RingAt w rb pb L N R pos (fun i => (nd i : Int))) (hrb : rb < w.heap.size) (hpb : pb < w.heap.size)
    (hL : L ≤ 1000000) (hN : N ≤ 1000000) (hg : Good L N pos nd) (hn : N ≤ n) (hu : Rd w ab n (fun i => .bool (st i))) :
    Calls Tryd.prog 26 #[.pointer (some ⟨rb, 0, none⟩), .string s, .slice ab n cb] w fun e w' =>
      ∃ ao cap, e = .returned (.slice ao (halt (ordP L pos nd (pvTo s 16)) st).length cap) ∧ Rd w' ao (halt (ordP L pos nd (pvTo s 16)) st).length (fun i => .int .i64 (((halt (ordP L pos nd (pvTo s 16)) st).getD i 0 : Nat) : Int)) ∧ Below w.heap.size w w' := by
  have HX : Hid (hexTo s 16) := hx
  have HRG : Hid (RingAt w rb pb L N R pos (fun i => (nd i : Int))) := hr
  have HG : Hid (Good L N pos nd) := hg
  have HU : Hid (Rd w ab n (fun i => .bool (st i))) := hu
  clear hx hr hg hu
  go_enter Tryd.func26, Tryd.ntmps26
  go_wp2_with fail
  have hB : Below w.heap.size w ((w.alloc (Obj.cells #[Value.slice ab n cb] 35)).alloc (Obj.cells #[Value.slice none 0 0] 23)) := ((Below.refl _ _).alloc (Nat.le_refl _) _).alloc (by simp) _
  have y1 : ((w.alloc (Obj.cells #[Value.slice ab n cb] 35)).alloc (Obj.cells #[Value.slice none 0 0] 23)).heap[w.heap.size]? = some (.cells #[Value.slice ab n cb] 35 (0, 0)) :=
    (Below.heap_alloc _ _ _ (by simp)).trans (heap_alloc_new w _)
  have y2 : ((w.alloc (Obj.cells #[Value.slice ab n cb] 35)).alloc (Obj.cells #[Value.slice none 0 0] 23)).heap[w.heap.size + 1]? = some (.cells #[Value.slice none 0 0] 23 (0, 0)) := by
    have := heap_alloc_new (w.alloc (Obj.cells #[Value.slice ab n cb] 35)) (Obj.cells #[Value.slice none 0 0] 23)
    rwa [World.size_alloc] at this
  have hI : InvRow (w.heap.size + 1) w.heap.size (id []) ((w.alloc (Obj.cells #[Value.slice ab n cb] 35)).alloc (Obj.cells #[Value.slice none 0 0] 23)) := ⟨_, y2, World.ownsRow_nil _ _ _ _⟩
  refine (walk_any 36 #[.pointer (some ⟨w.heap.size + 1, 0, none⟩), .pointer (some ⟨w.heap.size, 0, none⟩)] w.heap.size (w.heap.size + 1) s rb pb L N R pos nd id (onward st) _ (enters_body Tryd.func36 (by kernel_rfl) rfl) hs h16 HX.out
    (HRG.out.below hB hrb hpb) hrb hpb (by omega) (by simp) hL hN HG.out.sorted HG.out.range HG.out.all (fun acc x wv hpre hsame hinv => ?_) hI).mono ?_
  · have hlen : acc.length + 1 ≤ N := by
      have h1 := hpre.length_le
      have h2 : (ordr nd L (startAt pos L (pvTo s 16))).length = N := ordP_len HG.out _
      simp at h1
      omega
    have hxN : x < N := ordP_lt HG.out (pvTo s 16) x (hpre.subset (by simp))
    have hBv : Below w.heap.size w wv := hB.trans (hsame.below (by simp; omega) (by omega))
    have hmv : wv.heap[w.heap.size]? = some (.cells #[Value.slice ab n cb] 35 (0, 0)) := by
      rw [hsame.block w.heap.size (by simp; omega) (by omega) (.inr (by rintro ⟨cs, fr, hc⟩; rw [y1] at hc; simp at hc))]
      exact y1
    rw [onward_snoc]
    exact stop_visit w.heap.size (w.heap.size + 1) w.heap.size ab n cb st acc x wv (by omega) (by omega) (by omega) hmv (by omega)
      (fun b off e => by subst e; exact HU.out.lt (by omega)) (HU.out.below hBv) hinv
  · rintro e w2 ⟨rfl, hi2, hs2⟩
    obtain ⟨ao, cap, hc, hrd⟩ := hi2.reads
    rw [show (id (cutL (onward st) [] (ordr nd L (startAt pos L (pvTo s 16))))) = halt (ordP L pos nd (pvTo s 16)) st from rfl] at hc hrd
    have HRD : Hid (Rd w2 ao (halt (ordP L pos nd (pvTo s 16)) st).length (fun i => .int .i64 (((halt (ordP L pos nd (pvTo s 16)) st).getD i 0 : Nat) : Int))) := hrd
    have HBE : Hid (Below w.heap.size w w2) := hB.trans (hs2.below (by simp; omega) (by omega))
    clear hi2 hs2 hB hI y1 y2 hrd
    go_wp2
    go_ret
    exact ⟨ao, cap, rfl, HRD.out, HBE.out⟩

/-- What an owned row of ints reads as. -/
theorem owns_reads {w : World} {base : Nat} {v : Value} {l : List Nat} (h : w.ownsRow base 3 1 v l.length (l.map (fun x : Nat => Value.int .i64 (x : Int)))) :
    ∃ ao cap, v = .slice ao l.length cap ∧ Rd w ao l.length (fun i => .int .i64 ((l.getD i 0 : Nat) : Int)) := by
  obtain ⟨hl, ho⟩ := h
  rcases ho with ⟨e, hn⟩ | ⟨g, cap, cur, e, hb, hh, h1, h2, h3, h4⟩
  · exact ⟨none, 0, by rw [hn]; exact e, fun h => by omega⟩
  · refine ⟨_, cap, e, fun _ => ⟨g, 0, rfl, fun i hi => ?_⟩⟩
    have e1 : (cur.toList.take (l.length * 1))[i]? = some (.int .i64 ((l.getD i 0 : Nat) : Int)) := by
      rw [h4]; simp [List.getD, hi]
    have e2 : cur[i]? = some (.int .i64 ((l.getD i 0 : Nat) : Int)) := by
      rw [← e1, List.getElem?_take, if_pos (by omega)]; simp
    simp [World.cell?, hh, e2]

theorem owns_reads_n {w : World} {base n : Nat} {v : Value} {l : List Nat} (hn : n = l.length) (h : w.ownsRow base 3 1 v n (l.map (fun x : Nat => Value.int .i64 (x : Int)))) :
    ∃ ao cap, v = .slice ao l.length cap ∧ Rd w ao l.length (fun i => .int .i64 ((l.getD i 0 : Nat) : Int)) := by
  subst hn
  exact owns_reads h

theorem take_snoc_getD {D : List Nat} {k : Nat} (h : k < D.length) : D.take (k + 1) = D.take k ++ [D.getD k 0] := by
  rw [List.take_succ_eq_append_getElem h]; simp [List.getD, h]

set_option maxHeartbeats 800000 in
/-- zzCutAtStop. -/
theorem cutAtStop_any (ao ab : Option Addr) (co n cb : Nat) (D : List Nat) (st : Nat → Bool) (w : World) (hD : D.length ≤ 65536) (hn : n ≤ 1000000) (hlt : ∀ x, x ∈ D → x < n)
    (ho : Rd w ao D.length (fun i => .int .i64 ((D.getD i 0 : Nat) : Int))) (hu : Rd w ab n (fun i => .bool (st i))) :
    Calls Tryd.prog 27 #[.slice ao D.length co, .slice ab n cb] w fun e w' =>
      ∃ ah ch, e = .returned (.slice ah (halt D st).length ch) ∧ Rd w' ah (halt D st).length (fun i => .int .i64 (((halt D st).getD i 0 : Nat) : Int)) ∧ Below w.heap.size w w' := by
  have HO : Hid (Rd w ao D.length (fun i => .int .i64 ((D.getD i 0 : Nat) : Int))) := ho
  have HU : Hid (Rd w ab n (fun i => .bool (st i))) := hu
  have HLT : Hid (∀ x, x ∈ D → x < n) := hlt
  clear ho hu hlt
  obtain ⟨i0, hi0, hz0, hz1, hz2⟩ := info_parts Tryd.info3
  obtain ⟨N, hN⟩ : ∃ N, N = D.length := ⟨_, rfl⟩
  have HN : Hid (N = D.length) := hN
  rw [← hN] at HO ⊢ hD
  clear hN
  go_enter Tryd.func27, Tryd.ntmps27
  go_wp2_with (at_make; refine wpList_make_own _ rfl _ _ 23 rfl w.heap.size 3 i0 (.int .i64 0) 1 Tryd.underlying23 hi0 hz0 hz1 _ _ _ N rfl rfl rfl (by rw [hz2]; omega) (by unfold maxLen; omega) (Nat.le_refl _) ?_; intro w1 hown hg1)
  have hB1 : Below w.heap.size w w1 := (Below.refl _ _).grown hg1 (Nat.le_refl _) (fun k h => by cases h)
  clear hg1
  go_loopw [5, 6] (fun v i wr => ∃ k : Nat, k ≤ N ∧ i = .int .i64 k ∧ Hid (wr.ownsRow w.heap.size 3 1 v k ((D.take k).map (fun x : Nat => Value.int .i64 (x : Int)))) ∧ Hid (Below w.heap.size w wr) ∧
      Hid (cutL (onward st) (D.take k) (D.drop k) = halt D st)) (fun _ i _ => N - (intOf i).toNat)
  case atStart => exact ⟨0, Nat.zero_le _, rfl, hown, hB1, rfl⟩
  case round =>
    clear hown hB1
    obtain ⟨k, hk, rfl, HOWN, HBL, HC⟩ := hrel
    by_cases hlt : k < N
    · obtain ⟨bo, oo, rfl, hco⟩ := HO.out.below HBL.out (by omega)
      have hkD : k < D.length := by have := HN.out; omega
      have hxm : D.getD k 0 ∈ D := getD_mem hkD
      have hxn := HLT.out _ hxm
      obtain ⟨bu, ou, rfl, hcu⟩ := HU.out.below HBL.out (by omega)
      obtain ⟨x, hx⟩ : ∃ x, x = D.getD k 0 := ⟨_, rfl⟩
      have c1 : wr.cell? ⟨bo, oo + k, none⟩ = some (.int .i64 (x : Int)) := by rw [hx]; exact hco k hlt
      rw [← hx] at hxn
      have c2 : wr.cell? ⟨bu, ou + x, none⟩ = some (.bool (st x)) := hcu x hxn
      have HXD : Hid (x = D.getD k 0) := hx
      have hlo := HO.out.lt (by omega)
      have hlu := HU.out.lt (by omega)
      have hlt1 : (k : Int) < (N : Int) := by omega
      have hxI : (x : Int) < (n : Int) := by omega
      have hsz := HBL.out.size
      have hpre : D.take k ++ [x] <+: D := by rw [hx, ← take_snoc_getD hkD]; exact List.take_prefix _ _
      have HPRE : Hid (D.take k ++ [x] <+: D) := hpre
      clear hco hcu hx hxm hpre
      go_wp2_with (at_builtin; refine wpList_append_own _ rfl _ _ 23 rfl w.heap.size 3 i0 (.int .i64 0) 1 8 Tryd.underlying23 hi0 hz0 hz1 hz2 rfl (by decide) _ _ _ rfl (HOWN.out.alloc _) ⟨wr.heap.size, 0, none⟩ 1 1 [.int .i64 (x : Int)] rfl rfl (cell_one_new _ _ _) ?c2 ?c3 ?c4 ?c5 ?_)
      case c2 => first | rfl | (intro u hu; simp at hu; subst hu; rfl)
      case c3 => unfold maxLen; omega
      case c4 => omega
      case c5 => first | omega | (simp; omega)
      intro v' w2 hown' hgrow _
      have hown2 : w2.ownsRow w.heap.size 3 1 v' (k + 1) ((D.take (k + 1)).map (fun x : Nat => Value.int .i64 (x : Int))) := by
        rw [take_snoc_getD hkD, ← HXD.out]; simpa [List.map_take] using hown'
      have HOWN2 : Hid (w2.ownsRow w.heap.size 3 1 v' (k + 1) ((D.take (k + 1)).map (fun x : Nat => Value.int .i64 (x : Int)))) := hown2
      have HBL2 : Hid (Below w.heap.size w w2) := (HBL.out.alloc hsz _).grown hgrow (by simp; omega) (fun j h => (HOWN.out.lt j h).1)
      have c3 : w2.cell? ⟨bo, oo + k, none⟩ = some (.int .i64 (x : Int)) := by
        rw [HBL2.out.cell (p := ⟨bo, oo + k, none⟩) hlo, ← HBL.out.cell (p := ⟨bo, oo + k, none⟩) hlo]; exact c1
      have c4 : w2.cell? ⟨bu, ou + x, none⟩ = some (.bool (st x)) := by
        rw [HBL2.out.cell (p := ⟨bu, ou + x, none⟩) hlu, ← HBL.out.cell (p := ⟨bu, ou + x, none⟩) hlu]; exact c2
      have hkl : (D.take k).length = k := by simp; omega
      have htk : D.take k ++ [x] = D.take (k + 1) := by rw [take_snoc_getD hkD, ← HXD.out]
      have HC' := HC.out
      clear hown' hgrow c1 c2 hown2
      cases hst : st x <;> rw [hst] at c4
      · have HC2 : Hid (cutL (onward st) (D.take (k + 1)) (D.drop (k + 1)) = halt D st) := by
          show _ = _
          rw [← HC']
          have h1 := cut_step (cont := onward st) HPRE.out (by rw [onward_snoc, hst]; rfl)
          rw [htk, hkl, show (D.take (k + 1)).length = k + 1 by simp; omega] at h1
          exact h1.symm
        clear HC' hkl htk hst
        go_wp2
        go_roundw
        case rel => exact ⟨k + 1, by omega, by go_num, HOWN2, HBL2, HC2⟩
        case measure => simp [intOf]; omega
      · have HC2 : Hid (halt D st = D.take (k + 1)) := by
          show _ = _
          rw [← HC']
          have h1 := cut_stop (cont := onward st) HPRE.out (by rw [onward_snoc, hst]; rfl)
          rw [htk, hkl] at h1
          exact h1
        clear HC' hkl htk hst
        go_wp2
        go_ret
        rw [HC2.out]
        obtain ⟨ah, ch, e, hrd⟩ := owns_reads_n (show k + 1 = (D.take (k + 1)).length by simp; omega) HOWN2.out
        exact ⟨ah, ch, by rw [← e]; rfl, hrd, HBL2.out⟩
    · obtain rfl : k = N := by omega
      have htk : D.take k = D := List.take_of_length_le (by have := HN.out; omega)
      have HC2 : Hid (halt D st = D) := by
        show _ = _
        have := HC.out
        rw [htk, List.drop_of_length_le (by have := HN.out; omega)] at this
        rw [← this]; rfl
      have HOWN2 : Hid (wr.ownsRow w.heap.size 3 1 u5 D.length (D.map (fun x : Nat => Value.int .i64 (x : Int)))) := by
        show World.ownsRow _ _ _ _ _ _ _
        have := HOWN.out
        rw [htk] at this
        rw [← HN.out]; exact this
      clear HOWN HC htk
      go_wp2
      go_ret
      rw [HC2.out]
      obtain ⟨ah, ch, e, hrd⟩ := owns_reads HOWN2.out
      exact ⟨ah, ch, by rw [← e]; rfl, hrd, HBL.out⟩

end Go.Proofs.Qxb6608942aDoor
