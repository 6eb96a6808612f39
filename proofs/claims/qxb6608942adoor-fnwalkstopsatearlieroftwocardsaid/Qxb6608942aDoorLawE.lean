import Derived.Test.Qxb6608942aDoorTwo
import Derived.Test.Qxb6608942aDoorLawA
import Derived.Deep.DeepCutAuto
namespace Go.Proofs.Qxb6608942aDoor
open Go.RowKit

theorem prefix_getD {l D : List Nat} (h : l <+: D) {i : Nat} (hi : i < l.length) : l.getD i 0 = D.getD i 0 := by
  obtain ⟨r, rfl⟩ := h
  simp [List.getD, List.getElem?_append_left hi]

theorem lawE_bytes (s : ByteArray) (ap : Option Addr) (n cp : Nat) (aq : Option Addr) (m cq : Nat) (N : Int) (af1 : Option Addr) (nf1 cf1 : Nat) (af2 : Option Addr) (nf2 cf2 : Nat) (w : World) (hs : s.size ≤ maxLen) (hn : n ≤ maxLen) (hm : m ≤ maxLen) (hnf1 : nf1 ≤ maxLen) (hnf2 : nf2 ≤ maxLen) :
    Calls Tryd.prog 28 #[.string s, .slice ap n cp, .slice aq m cq, .int .i64 N, .slice af1 nf1 cf1, .slice af2 nf2 cf2] w fun e w' => ∃ r : Bool, e = .returned (.bool r) ∧ w = w' := by
  unfold maxLen at hs hn hm hnf1 hnf2
  go_enter Tryd.func28, Tryd.ntmps28
  go_wp2
  all_goals go_ret
  all_goals exact ⟨_, rfl, rfl⟩

set_option maxRecDepth 100000 in
set_option maxHeartbeats 3200000 in
theorem lawE (s : ByteArray) (ap : Option Addr) (n cp : Nat) (aq : Option Addr) (m cq : Nat) (N : Int) (af1 : Option Addr) (nf1 cf1 : Nat) (af2 : Option Addr) (nf2 cf2 : Nat) (pos node : Nat → Int) (f1 f2 : Nat → Bool) (w : World) (hs : s.size ≤ maxLen) (hn : n ≤ maxLen) (hm : m ≤ maxLen) (hnf1 : nf1 ≤ maxLen) (hnf2 : nf2 ≤ maxLen) (hdap : Rd w ap n (fun i => .int .u64 (pos i))) (hdaq : Rd w aq m (fun i => .int .i64 (node i))) (hdaf1 : Rd w af1 nf1 (fun i => .bool (f1 i))) (hdaf2 : Rd w af2 nf2 (fun i => .bool (f2 i))) (hpb : ∀ j, j < n → 0 ≤ pos j ∧ pos j < 18446744073709551616) :
    Calls Tryd.prog 9 #[.string s, .slice ap n cp, .slice aq m cq, .int .i64 N, .slice af1 nf1 cf1, .slice af2 nf2 cf2] w fun e w' => e = .returned (.bool true) ∧ Below w.heap.size w w' := by
  have HA : Hid (Rd w ap n (fun i => .int .u64 (pos i))) := hdap
  have HB : Hid (Rd w aq m (fun i => .int .i64 (node i))) := hdaq
  have Hf1 : Hid (Rd w af1 nf1 (fun i => .bool (f1 i))) := hdaf1
  have Hf2 : Hid (Rd w af2 nf2 (fun i => .bool (f2 i))) := hdaf2
  have HPB : Hid (∀ j, j < n → 0 ≤ pos j ∧ pos j < 18446744073709551616) := hpb
  have HE : Hid (Below w.heap.size w w) := Below.refl _ _
  have hs0 := hs
  have hn0 := hn
  have hm0 := hm
  have hnf10 := hnf1
  have hnf20 := hnf2
  have q22 := neq22
  have q23 := neq23
  have q35 := neq35
  clear hpb hdap hdaq hdaf1 hdaf2
  unfold maxLen at hs hn hm hnf1 hnf2
  by_cases x0 : 65536 < s.size
  · go_enter Tryd.func9, Tryd.ntmps9
    go_wp2_with (go_at_call 28; refine (lawE_bytes s ap n cp aq m cq N af1 nf1 cf1 af2 nf2 cf2 _ hs0 hn0 hm0 hnf10 hnf20).mono ?_; rintro e w' ⟨r, rfl, rfl⟩; cases r)
    all_goals (go_ret; exact ⟨rfl, Below.refl _ _⟩)
  have d0 : decide ((65536 : Int) < (s.size : Int)) = false := by simp; omega
  by_cases x1 : 32768 < n
  · go_enter Tryd.func9, Tryd.ntmps9
    go_wp2_with (go_at_call 28; refine (lawE_bytes s ap n cp aq m cq N af1 nf1 cf1 af2 nf2 cf2 _ hs0 hn0 hm0 hnf10 hnf20).mono ?_; rintro e w' ⟨r, rfl, rfl⟩; cases r)
    all_goals (go_ret; exact ⟨rfl, Below.refl _ _⟩)
  have d1 : decide ((32768 : Int) < (n : Int)) = false := by simp; omega
  by_cases x2 : 32768 < m
  · go_enter Tryd.func9, Tryd.ntmps9
    go_wp2_with (go_at_call 28; refine (lawE_bytes s ap n cp aq m cq N af1 nf1 cf1 af2 nf2 cf2 _ hs0 hn0 hm0 hnf10 hnf20).mono ?_; rintro e w' ⟨r, rfl, rfl⟩; cases r)
    all_goals (go_ret; exact ⟨rfl, Below.refl _ _⟩)
  have d2 : decide ((32768 : Int) < (m : Int)) = false := by simp; omega
  by_cases x3 : 65536 < nf1
  · go_enter Tryd.func9, Tryd.ntmps9
    go_wp2_with (go_at_call 28; refine (lawE_bytes s ap n cp aq m cq N af1 nf1 cf1 af2 nf2 cf2 _ hs0 hn0 hm0 hnf10 hnf20).mono ?_; rintro e w' ⟨r, rfl, rfl⟩; cases r)
    all_goals (go_ret; exact ⟨rfl, Below.refl _ _⟩)
  have d3 : decide ((65536 : Int) < (nf1 : Int)) = false := by simp; omega
  by_cases x4 : 65536 < nf2
  · go_enter Tryd.func9, Tryd.ntmps9
    go_wp2_with (go_at_call 28; refine (lawE_bytes s ap n cp aq m cq N af1 nf1 cf1 af2 nf2 cf2 _ hs0 hn0 hm0 hnf10 hnf20).mono ?_; rintro e w' ⟨r, rfl, rfl⟩; cases r)
    all_goals (go_ret; exact ⟨rfl, Below.refl _ _⟩)
  have d4 : decide ((65536 : Int) < (nf2 : Int)) = false := by simp; omega
  by_cases x5 : N < 0
  · go_enter Tryd.func9, Tryd.ntmps9
    go_wp2_with (go_at_call 28; refine (lawE_bytes s ap n cp aq m cq N af1 nf1 cf1 af2 nf2 cf2 _ hs0 hn0 hm0 hnf10 hnf20).mono ?_; rintro e w' ⟨r, rfl, rfl⟩; cases r)
    all_goals (go_ret; exact ⟨rfl, Below.refl _ _⟩)
  have d5 : decide (N < 0) = false := by simp; omega
  obtain ⟨N, rfl⟩ := Int.eq_ofNat_of_zero_le (show 0 ≤ N by omega)
  by_cases x6 : 65536 < (N : Int)
  · go_enter Tryd.func9, Tryd.ntmps9
    go_wp2_with (go_at_call 28; refine (lawE_bytes s ap n cp aq m cq N af1 nf1 cf1 af2 nf2 cf2 _ hs0 hn0 hm0 hnf10 hnf20).mono ?_; rintro e w' ⟨r, rfl, rfl⟩; cases r)
    all_goals (go_ret; exact ⟨rfl, Below.refl _ _⟩)
  have d6 : decide ((65536 : Int) < (N : Int)) = false := by simp; omega
  by_cases x7 : nf1 < N
  · go_enter Tryd.func9, Tryd.ntmps9
    go_wp2_with (go_at_call 28; refine (lawE_bytes s ap n cp aq m cq N af1 nf1 cf1 af2 nf2 cf2 _ hs0 hn0 hm0 hnf10 hnf20).mono ?_; rintro e w' ⟨r, rfl, rfl⟩; cases r)
    all_goals (go_ret; exact ⟨rfl, Below.refl _ _⟩)
  have d7 : decide (nf1 < N) = false := by simp; omega
  by_cases x8 : nf2 < N
  · go_enter Tryd.func9, Tryd.ntmps9
    go_wp2_with (go_at_call 28; refine (lawE_bytes s ap n cp aq m cq N af1 nf1 cf1 af2 nf2 cf2 _ hs0 hn0 hm0 hnf10 hnf20).mono ?_; rintro e w' ⟨r, rfl, rfl⟩; cases r)
    all_goals (go_ret; exact ⟨rfl, Below.refl _ _⟩)
  have d8 : decide (nf2 < N) = false := by simp; omega
  have eN : N ≤ 65536 := by omega
  have es : s.size ≤ 65536 := by omega
  have en : n ≤ 32768 := by omega
  have em : m ≤ 32768 := by omega
  have enf1 : nf1 ≤ 65536 := by omega
  have gnf1 : N ≤ nf1 := by omega
  have enf2 : nf2 ≤ 65536 := by omega
  have gnf2 : N ≤ nf2 := by omega
  clear x0 x1 x2 x3 x4 x5 x6 x7 x8
  go_enter Tryd.func9, Tryd.ntmps9
  go_upto_if 74 with (go_at_call 28; refine (lawE_bytes s ap n cp aq m cq N af1 nf1 cf1 af2 nf2 cf2 _ hs0 hn0 hm0 hnf10 hnf20).mono ?_; rintro e w' ⟨r, rfl, rfl⟩; cases r)
  · go_ret; exact ⟨rfl, Below.refl _ _⟩
  go_cut [1, 13] (fun s1 s2 wx => ∃ a' c', s1 = .slice a' n c' ∧ Hid (Rd wx a' n (fun i => .int .u64 (pos i))) ∧ Hid (Rd wx aq m (fun i => .int .i64 (node i))) ∧ Hid (Rd wx af1 nf1 (fun i => .bool (f1 i))) ∧ Hid (Rd wx af2 nf2 (fun i => .bool (f2 i))) ∧ Hid (Below w.heap.size w wx))
  case first =>
    cases ap with
    | none =>
      go_wp2
      go_meet
      case rel => exact ⟨_, _, rfl, HA, HB, Hf1, Hf2, HE⟩
    | some ad =>
      go_upto_region 11 with (at_make; refine wpList_mk _ rfl _ _ 22 rfl 25 (.int .u64 0) 8 Tryd.underlying22 Tryd.info25 rfl _ _ _ _ n rfl rfl rfl rfl (by omega) (by omega) ?_; intro wk1 own1 hbk1 hsk1)
      go_wp2_with (refine wpList_cp rfl (.tmp 78) (.tmp 79) 22 22 rfl 25 Tryd.underlying22 Tryd.size25 _ n _ w.heap.size rfl rfl 25 _ _ own1 (HA.out.below hbk1) (fun _ => rfl) w.heap.size w hbk1 (Nat.le_refl _) ?_; intro wk2 own2 hbk2)
      go_meet
      case rel => exact ⟨_, _, rfl, own2.rd, HB.out.below hbk2, Hf1.out.below hbk2, Hf2.out.below hbk2, HE.out.trans (hbk2.mono HE.out.size)⟩
  clear HE HA HB Hf1 Hf2
  obtain ⟨ap1, cp1, rfl, HA, HB, Hf1, Hf2, HE⟩ := hcut
  go_upto_if 83 with fail
  go_cut [2, 14] (fun s1 s2 wx => ∃ a' c', s1 = .slice a' m c' ∧ Hid (Rd wx a' m (fun i => .int .i64 (node i))) ∧ Hid (Rd wx ap1 n (fun i => .int .u64 (pos i))) ∧ Hid (Rd wx af1 nf1 (fun i => .bool (f1 i))) ∧ Hid (Rd wx af2 nf2 (fun i => .bool (f2 i))) ∧ Hid (Below w.heap.size w wx))
  case first =>
    cases aq with
    | none =>
      go_wp2
      go_meet
      case rel => exact ⟨_, _, rfl, HB, HA, Hf1, Hf2, HE⟩
    | some ad =>
      go_upto_region 15 with (at_make; refine wpList_mk _ rfl _ _ 23 rfl 3 (.int .i64 0) 8 Tryd.underlying23 Tryd.info3 rfl _ _ _ _ m rfl rfl rfl rfl (by omega) (by omega) ?_; intro wk1 own1 hbk1 hsk1)
      go_wp2_with (refine wpList_cp rfl (.tmp 87) (.tmp 88) 23 23 rfl 3 Tryd.underlying23 Tryd.size3 _ m _ wc.heap.size rfl rfl 3 _ _ own1 (HB.out.below hbk1) (fun _ => rfl) wc.heap.size wc hbk1 (Nat.le_refl _) ?_; intro wk2 own2 hbk2)
      go_meet
      case rel => exact ⟨_, _, rfl, own2.rd, HA.out.below hbk2, Hf1.out.below hbk2, Hf2.out.below hbk2, HE.out.trans (hbk2.mono HE.out.size)⟩
  clear HE HA HB Hf1 Hf2
  obtain ⟨aq1, cq1, rfl, HB, HA, Hf1, Hf2, HE⟩ := hcut
  go_upto_if 92 with fail
  go_cut [4, 15] (fun s1 s2 wx => ∃ a' c', s1 = .slice a' nf1 c' ∧ Hid (Rd wx a' nf1 (fun i => .bool (f1 i))) ∧ Hid (Rd wx ap1 n (fun i => .int .u64 (pos i))) ∧ Hid (Rd wx aq1 m (fun i => .int .i64 (node i))) ∧ Hid (Rd wx af2 nf2 (fun i => .bool (f2 i))) ∧ Hid (Below w.heap.size w wx))
  case first =>
    cases af1 with
    | none =>
      go_wp2
      go_meet
      case rel => exact ⟨_, _, rfl, Hf1, HA, HB, Hf2, HE⟩
    | some ad =>
      go_upto_region 19 with (at_make; refine wpList_mk _ rfl _ _ 35 rfl 4 (.bool false) 1 Tryd.underlying35 Tryd.info4 rfl _ _ _ _ nf1 rfl rfl rfl rfl (by omega) (by omega) ?_; intro wk1 own1 hbk1 hsk1)
      go_wp2_with (refine wpList_cp rfl (.tmp 96) (.tmp 97) 35 35 rfl 4 Tryd.underlying35 Tryd.size4 _ nf1 _ wc.heap.size rfl rfl 4 _ _ own1 (Hf1.out.below hbk1) (fun _ => rfl) wc.heap.size wc hbk1 (Nat.le_refl _) ?_; intro wk2 own2 hbk2)
      go_meet
      case rel => exact ⟨_, _, rfl, own2.rd, HA.out.below hbk2, HB.out.below hbk2, Hf2.out.below hbk2, HE.out.trans (hbk2.mono HE.out.size)⟩
  clear HE HA HB Hf1 Hf2
  obtain ⟨af11, cf11, rfl, Hf1, HA, HB, Hf2, HE⟩ := hcut
  go_upto_if 101 with fail
  go_cut [5, 16] (fun s1 s2 wx => ∃ a' c', s1 = .slice a' nf2 c' ∧ Hid (Rd wx a' nf2 (fun i => .bool (f2 i))) ∧ Hid (Rd wx ap1 n (fun i => .int .u64 (pos i))) ∧ Hid (Rd wx aq1 m (fun i => .int .i64 (node i))) ∧ Hid (Rd wx af11 nf1 (fun i => .bool (f1 i))) ∧ Hid (Below w.heap.size w wx))
  case first =>
    cases af2 with
    | none =>
      go_wp2
      go_meet
      case rel => exact ⟨_, _, rfl, Hf2, HA, HB, Hf1, HE⟩
    | some ad =>
      go_upto_region 23 with (at_make; refine wpList_mk _ rfl _ _ 35 rfl 4 (.bool false) 1 Tryd.underlying35 Tryd.info4 rfl _ _ _ _ nf2 rfl rfl rfl rfl (by omega) (by omega) ?_; intro wk1 own1 hbk1 hsk1)
      go_wp2_with (refine wpList_cp rfl (.tmp 105) (.tmp 106) 35 35 rfl 4 Tryd.underlying35 Tryd.size4 _ nf2 _ wc.heap.size rfl rfl 4 _ _ own1 (Hf2.out.below hbk1) (fun _ => rfl) wc.heap.size wc hbk1 (Nat.le_refl _) ?_; intro wk2 own2 hbk2)
      go_meet
      case rel => exact ⟨_, _, rfl, own2.rd, HA.out.below hbk2, HB.out.below hbk2, Hf1.out.below hbk2, HE.out.trans (hbk2.mono HE.out.size)⟩
  clear HE HA HB Hf1 Hf2
  obtain ⟨af21, cf21, rfl, Hf2, HA, HB, Hf1, HE⟩ := hcut
  by_cases hexs : 16 ≤ s.size ∧ hexTo s 16
  rotate_left
  · have HN : Hid (¬ (16 ≤ s.size ∧ hexTo s 16)) := hexs
    clear hexs
    go_wp2_with fail
    refine (prefixPos_no s _ hs0 HN.out).mono ?_
    rintro e wz ⟨rfl, rfl⟩
    go_wp2
    go_ret
    exact ⟨rfl, HE.out⟩
  obtain ⟨h16s, hxs⟩ := hexs
  have HXs : Hid (hexTo s 16) := hxs
  clear hxs
  go_wp2_with fail
  refine (prefixPos_yes s _ hs0 h16s HXs.out).mono ?_
  rintro e wp ⟨rfl, hwp⟩
  subst hwp
  go_wp2_with fail
  refine (ringOK_any ap1 aq1 n m N cp1 cq1 pos node _ (by omega) (by omega) eN HA.out HB.out).mono ?_
  rintro e wr2 ⟨r, rfl, hr, hbr⟩
  replace HA : Hid (Rd wr2 ap1 n (fun i => .int .u64 (pos i))) := HA.out.below hbr
  replace HB : Hid (Rd wr2 aq1 m (fun i => .int .i64 (node i))) := HB.out.below hbr
  replace Hf1 : Hid (Rd wr2 af11 nf1 (fun i => .bool (f1 i))) := Hf1.out.below hbr
  replace Hf2 : Hid (Rd wr2 af21 nf2 (fun i => .bool (f2 i))) := Hf2.out.below hbr
  replace HE : Hid (Below w.heap.size w wr2) := HE.out.trans (hbr.mono HE.out.size)
  clear hbr
  cases r
  · clear hr
    go_wp2
    go_ret
    exact ⟨rfl, HE.out⟩
  have hfit := hr rfl
  clear hr
  obtain rfl : n = m := hfit.len
  obtain ⟨nd, hnd, hgood⟩ := hfit.good HPB.out
  have HG : Hid (Good n N pos nd) := hgood
  replace HB : Hid (Rd wr2 aq1 n (fun i => .int .i64 (nd i : Int))) := HB.out.congr (fun i hi => by rw [hnd i hi])
  clear hfit hnd hgood
  go_wp2_with fail
  refine (newRing_at ap1 aq1 n cp1 cq1 N 1 1 pos nd _ (by omega) rfl HA.out HB.out).mono ?_
  rintro e w3 ⟨rb, pb, rfl, hr3, l1, l2, hb3⟩
  replace HA : Hid (Rd w3 ap1 n (fun i => .int .u64 (pos i))) := HA.out.below hb3
  replace HB : Hid (Rd w3 aq1 n (fun i => .int .i64 (nd i : Int))) := HB.out.below hb3
  replace Hf1 : Hid (Rd w3 af11 nf1 (fun i => .bool (f1 i))) := Hf1.out.below hb3
  replace Hf2 : Hid (Rd w3 af21 nf2 (fun i => .bool (f2 i))) := Hf2.out.below hb3
  replace HE : Hid (Below w.heap.size w w3) := HE.out.trans (hb3.mono HE.out.size)
  have HR : Hid (RingAt w3 rb pb n N 1 pos (fun i => (nd i : Int))) := hr3
  clear hr3 hb3
  go_wp2_with fail
  refine (order_good s rb pb n N 1 pos nd _ hs0 h16s HXs.out HR.out l1 l2 (by omega) (by omega) HG.out).mono ?_
  rintro e w4 ⟨ao, co, rfl, ho, hb4⟩
  replace HA : Hid (Rd w4 ap1 n (fun i => .int .u64 (pos i))) := HA.out.below hb4
  replace HB : Hid (Rd w4 aq1 n (fun i => .int .i64 (nd i : Int))) := HB.out.below hb4
  replace Hf1 : Hid (Rd w4 af11 nf1 (fun i => .bool (f1 i))) := Hf1.out.below hb4
  replace Hf2 : Hid (Rd w4 af21 nf2 (fun i => .bool (f2 i))) := Hf2.out.below hb4
  replace HR : Hid (RingAt w4 rb pb n N 1 pos (fun i => (nd i : Int))) := HR.out.below hb4 l1 l2
  replace HE : Hid (Below w.heap.size w w4) := HE.out.trans (hb4.mono HE.out.size)
  have HO : Hid (Rd w4 ao N (fun i => .int .i64 (((ordP n pos nd (pvTo s 16)).getD i 0 : Nat) : Int))) := ho
  replace l1 : rb < w4.heap.size := by have := hb4.size; omega
  replace l2 : pb < w4.heap.size := by have := hb4.size; omega
  clear ho hb4
  have hps := pv_range HXs.out
  have HF : Hid (OrderFits n N pos nd (pvTo s 16) (fun i => (ordP n pos nd (pvTo s 16)).getD i 0)) := ordP_fits HG.out hps.1 hps.2
  clear hps
  go_wp2_with fail
  refine (orderOK_yes ao ap1 aq1 n N co cp1 cq1 pos nd _ (pvTo s 16) _ (by omega) eN HO.out HA.out HB.out HG.out.range HG.out.pos HF.out).mono ?_
  rintro e w5 ⟨rfl, hb5⟩
  clear HA HB
  replace Hf1 : Hid (Rd w5 af11 nf1 (fun i => .bool (f1 i))) := Hf1.out.below hb5
  replace Hf2 : Hid (Rd w5 af21 nf2 (fun i => .bool (f2 i))) := Hf2.out.below hb5
  replace HR : Hid (RingAt w5 rb pb n N 1 pos (fun i => (nd i : Int))) := HR.out.below hb5 l1 l2
  replace HO : Hid (Rd w5 ao N (fun i => .int .i64 (((ordP n pos nd (pvTo s 16)).getD i 0 : Nat) : Int))) := HO.out.below hb5
  replace HE : Hid (Below w.heap.size w w5) := HE.out.trans (hb5.mono HE.out.size)
  replace l1 : rb < w5.heap.size := by have := hb5.size; omega
  replace l2 : pb < w5.heap.size := by have := hb5.size; omega
  clear hb5 HF
  go_wp2_with fail
  refine (zzWalk_any s rb pb n N 1 af11 nf1 cf11 f1 pos nd _ hs0 h16s HXs.out HR.out l1 l2 (by omega) (by omega) HG.out gnf1 Hf1.out).mono ?_
  rintro e w6 ⟨aX, cX, rfl, hgt, hb6⟩
  replace Hf1 : Hid (Rd w6 af11 nf1 (fun i => .bool (f1 i))) := Hf1.out.below hb6
  replace Hf2 : Hid (Rd w6 af21 nf2 (fun i => .bool (f2 i))) := Hf2.out.below hb6
  replace HR : Hid (RingAt w6 rb pb n N 1 pos (fun i => (nd i : Int))) := HR.out.below hb6 l1 l2
  replace HO : Hid (Rd w6 ao N (fun i => .int .i64 (((ordP n pos nd (pvTo s 16)).getD i 0 : Nat) : Int))) := HO.out.below hb6
  replace HE : Hid (Below w.heap.size w w6) := HE.out.trans (hb6.mono HE.out.size)
  replace l1 : rb < w6.heap.size := by have := hb6.size; omega
  replace l2 : pb < w6.heap.size := by have := hb6.size; omega
  have HX : Hid (Rd w6 aX (halt (ordP n pos nd (pvTo s 16)) f1).length (fun i => .int .i64 (((halt (ordP n pos nd (pvTo s 16)) f1).getD i 0 : Nat) : Int))) := hgt
  clear hgt hb6
  go_wp2_with fail
  refine (zzWalk_any s rb pb n N 1 af21 nf2 cf21 f2 pos nd _ hs0 h16s HXs.out HR.out l1 l2 (by omega) (by omega) HG.out gnf2 Hf2.out).mono ?_
  rintro e w7 ⟨aY, cY, rfl, hgt, hb7⟩
  replace Hf1 : Hid (Rd w7 af11 nf1 (fun i => .bool (f1 i))) := Hf1.out.below hb7
  replace Hf2 : Hid (Rd w7 af21 nf2 (fun i => .bool (f2 i))) := Hf2.out.below hb7
  replace HR : Hid (RingAt w7 rb pb n N 1 pos (fun i => (nd i : Int))) := HR.out.below hb7 l1 l2
  replace HO : Hid (Rd w7 ao N (fun i => .int .i64 (((ordP n pos nd (pvTo s 16)).getD i 0 : Nat) : Int))) := HO.out.below hb7
  replace HX : Hid (Rd w7 aX (halt (ordP n pos nd (pvTo s 16)) f1).length (fun i => .int .i64 (((halt (ordP n pos nd (pvTo s 16)) f1).getD i 0 : Nat) : Int))) := HX.out.below hb7
  replace HE : Hid (Below w.heap.size w w7) := HE.out.trans (hb7.mono HE.out.size)
  replace l1 : rb < w7.heap.size := by have := hb7.size; omega
  replace l2 : pb < w7.heap.size := by have := hb7.size; omega
  have HY : Hid (Rd w7 aY (halt (ordP n pos nd (pvTo s 16)) f2).length (fun i => .int .i64 (((halt (ordP n pos nd (pvTo s 16)) f2).getD i 0 : Nat) : Int))) := hgt
  clear hgt hb7
  go_wp2_with (at_make; refine wpList_mk _ rfl _ _ 35 rfl 4 (.bool false) 1 Tryd.underlying35 Tryd.info4 rfl _ _ _ _ N rfl rfl rfl rfl (by omega) (by omega) ?_; intro w8 own8 hb8 hs8)
  obtain ⟨ub, hub⟩ : ∃ ub, ub = w7.heap.size := ⟨_, rfl⟩
  have HUB : Hid (ub = w7.heap.size) := hub
  rw [← hub] at own8 ⊢
  clear hs8 hub
  go_loopw [24] (fun i wr => ∃ k : Nat, k ≤ N ∧ i = .int .i64 k ∧ Hid (Below w7.heap.size w7 wr) ∧ Hid (Own wr ub N 4 (fun i => if i < k then .bool (f1 i || f2 i) else .bool false))) (fun i _ => N - (intOf i).toNat)
  case atStart => exact ⟨0, Nat.zero_le _, rfl, hb8, own8.congr (fun i _ => by simp)⟩
  clear own8 hb8
  obtain ⟨k, hk, rfl, HBL, HOWN⟩ := hrel
  by_cases hlt : k < N
  · obtain ⟨b1, o1, rfl, hc1⟩ := Hf1.out.below HBL.out (by omega)
    obtain ⟨b2, o2, rfl, hc2⟩ := Hf2.out.below HBL.out (by omega)
    have k1 : wr.cell? ⟨b1, o1 + k, none⟩ = some (.bool (f1 k)) := hc1 k (by omega)
    have k2 : wr.cell? ⟨b2, o2 + k, none⟩ = some (.bool (f2 k)) := hc2 k (by omega)
    have m1 : (k : Int) < (N : Int) := by omega
    have m2 : (k : Int) < (nf1 : Int) := by omega
    have m3 : (k : Int) < (nf2 : Int) := by omega
    have k3 : wr.cell? ⟨ub, k, none⟩ = some (.bool false) := by rw [HOWN.out.at k hlt, if_neg (by omega)]
    have k4 := HOWN.out.free k
    clear hc1 hc2
    have HN : Hid (∀ v : Bool, v = (f1 k || f2 k) → Own (wr.setCell ⟨ub, k, none⟩ (.bool v)) ub N 4 (fun i => if i < k + 1 then .bool (f1 i || f2 i) else .bool false)) := fun v hv => (HOWN.out.set k hlt (.bool v)).congr (fun i hi => by
      by_cases e : i = k
      · subst e; simp [hv]
      · simp only [e, if_false]
        by_cases h : i < k
        · simp [h, show i < k + 1 by omega]
        · simp [h, show ¬ i < k + 1 by omega])
    have HB2 : Hid (∀ v : Value, Below w7.heap.size w7 (wr.setCell ⟨ub, k, none⟩ v)) := fun v => HBL.out.setCell (by show w7.heap.size ≤ ub; have := HUB.out; omega) v
    cases h1 : f1 k <;> rw [h1] at k1
    · cases h2 : f2 k <;> rw [h2] at k2
      · have HV : Hid (false = (f1 k || f2 k)) := by show _ = _; rw [h1, h2]; rfl
        clear h1 h2
        go_wp2
        go_roundw
        case rel => exact ⟨k + 1, by omega, by go_num, HB2.out _, HN.out _ HV.out⟩
        case measure => simp [intOf]; omega
      · have HV : Hid (true = (f1 k || f2 k)) := by show _ = _; rw [h1, h2]; rfl
        clear h1 h2
        go_wp2
        go_roundw
        case rel => exact ⟨k + 1, by omega, by go_num, HB2.out _, HN.out _ HV.out⟩
        case measure => simp [intOf]; omega
    · have HV : Hid (true = (f1 k || f2 k)) := by show _ = _; rw [h1]; rfl
      clear h1
      go_wp2
      go_roundw
      case rel => exact ⟨k + 1, by omega, by go_num, HB2.out _, HN.out _ HV.out⟩
      case measure => simp [intOf]; omega
  obtain rfl : k = N := by omega
  have HU : Hid (Rd wr (some ⟨ub, 0, none⟩) k (fun i => .bool (f1 i || f2 i))) := (HOWN.out.congr (fun i hi => by simp [hi])).rd
  clear HOWN
  replace Hf1 : Hid (Rd wr af11 nf1 (fun i => .bool (f1 i))) := Hf1.out.below HBL.out
  replace Hf2 : Hid (Rd wr af21 nf2 (fun i => .bool (f2 i))) := Hf2.out.below HBL.out
  replace HR : Hid (RingAt wr rb pb n k 1 pos (fun i => (nd i : Int))) := HR.out.below HBL.out l1 l2
  replace HO : Hid (Rd wr ao k (fun i => .int .i64 (((ordP n pos nd (pvTo s 16)).getD i 0 : Nat) : Int))) := HO.out.below HBL.out
  replace HX : Hid (Rd wr aX (halt (ordP n pos nd (pvTo s 16)) f1).length (fun i => .int .i64 (((halt (ordP n pos nd (pvTo s 16)) f1).getD i 0 : Nat) : Int))) := HX.out.below HBL.out
  replace HY : Hid (Rd wr aY (halt (ordP n pos nd (pvTo s 16)) f2).length (fun i => .int .i64 (((halt (ordP n pos nd (pvTo s 16)) f2).getD i 0 : Nat) : Int))) := HY.out.below HBL.out
  replace HE : Hid (Below w.heap.size w wr) := HE.out.trans (HBL.out.mono HE.out.size)
  replace l1 : rb < wr.heap.size := by have := HBL.out.size; omega
  replace l2 : pb < wr.heap.size := by have := HBL.out.size; omega
  clear HBL HUB
  go_wp2_with fail
  refine (zzWalk_any s rb pb n k 1 (some ⟨ub, 0, none⟩) k k (fun i => f1 i || f2 i) pos nd _ hs0 h16s HXs.out HR.out l1 l2 (by omega) (by omega) HG.out (Nat.le_refl _) HU.out).mono ?_
  rw [halt_two]
  rintro e w9 ⟨aZ, cZ, rfl, hgt, hb9⟩
  clear HR HU Hf2
  replace Hf1 : Hid (Rd w9 af11 nf1 (fun i => .bool (f1 i))) := Hf1.out.below hb9
  replace HO : Hid (Rd w9 ao k (fun i => .int .i64 (((ordP n pos nd (pvTo s 16)).getD i 0 : Nat) : Int))) := HO.out.below hb9
  replace HX : Hid (Rd w9 aX (halt (ordP n pos nd (pvTo s 16)) f1).length (fun i => .int .i64 (((halt (ordP n pos nd (pvTo s 16)) f1).getD i 0 : Nat) : Int))) := HX.out.below hb9
  replace HY : Hid (Rd w9 aY (halt (ordP n pos nd (pvTo s 16)) f2).length (fun i => .int .i64 (((halt (ordP n pos nd (pvTo s 16)) f2).getD i 0 : Nat) : Int))) := HY.out.below hb9
  replace HE : Hid (Below w.heap.size w w9) := HE.out.trans (hb9.mono HE.out.size)
  have HLEN : Hid ((ordP n pos nd (pvTo s 16)).length = k) := ordP_len HG.out _
  have HLT : Hid (∀ x, x ∈ (ordP n pos nd (pvTo s 16)) → x < nf1) := fun x hx => by have := ordP_lt HG.out _ x hx; omega
  clear hb9 l1 l2
  generalize (ordP n pos nd (pvTo s 16)) = D at *
  have hDN : D.length = k := HLEN.out
  subst hDN
  have hp1 := halt_prefix2 D f1
  have hp2 := halt_prefix2 D f2
  have hl1 := hp1.length_le
  have hl2 := hp2.length_le
  have HP2 : Hid (halt D f2 <+: D) := hp2
  have HZ : Hid (Rd w9 aZ (if (halt D f1).length ≤ (halt D f2).length then halt D f1 else halt D f2).length (fun i => .int .i64 (((if (halt D f1).length ≤ (halt D f2).length then halt D f1 else halt D f2).getD i 0 : Nat) : Int))) := hgt
  clear hgt hp1 hp2
  obtain ⟨Z, hZ⟩ : ∃ Z, Z = (if (halt D f1).length ≤ (halt D f2).length then halt D f1 else halt D f2) := ⟨_, rfl⟩
  rw [← hZ] at HZ ⊢
  have HZD : Hid (Z = (if (halt D f1).length ≤ (halt D f2).length then halt D f1 else halt D f2)) := hZ
  clear hZ
  go_wp2_with fail
  refine (cutAtStop_any ao af11 co nf1 cf11 D f1 _ eN (by omega) HLT.out HO.out Hf1.out).mono ?_
  rintro e w10 ⟨ah, ch, rfl, hrd, hb10⟩
  clear Hf1
  replace HO : Hid (Rd w10 ao D.length (fun i => .int .i64 ((D.getD i 0 : Nat) : Int))) := HO.out.below hb10
  replace HX : Hid (Rd w10 aX (halt D f1).length (fun i => .int .i64 (((halt D f1).getD i 0 : Nat) : Int))) := HX.out.below hb10
  replace HY : Hid (Rd w10 aY (halt D f2).length (fun i => .int .i64 (((halt D f2).getD i 0 : Nat) : Int))) := HY.out.below hb10
  replace HZ : Hid (Rd w10 aZ Z.length (fun i => .int .i64 ((Z.getD i 0 : Nat) : Int))) := HZ.out.below hb10
  replace HE : Hid (Below w.heap.size w w10) := HE.out.trans (hb10.mono HE.out.size)
  have HC : Hid (Rd w10 ah (halt D f1).length (fun i => .int .i64 (((halt D f1).getD i 0 : Nat) : Int))) := hrd
  clear hrd hb10 HLT
  go_wp2_with fail
  refine (eqInts_yes aX ah (halt D f1).length cX ch (fun i => (((halt D f1).getD i 0 : Nat) : Int)) _ (by omega) HX.out HC.out).mono ?_
  rintro e w11 ⟨rfl, hb11⟩
  clear HC
  replace HO : Hid (Rd w11 ao D.length (fun i => .int .i64 ((D.getD i 0 : Nat) : Int))) := HO.out.below hb11
  replace HX : Hid (Rd w11 aX (halt D f1).length (fun i => .int .i64 (((halt D f1).getD i 0 : Nat) : Int))) := HX.out.below hb11
  replace HY : Hid (Rd w11 aY (halt D f2).length (fun i => .int .i64 (((halt D f2).getD i 0 : Nat) : Int))) := HY.out.below hb11
  replace HZ : Hid (Rd w11 aZ Z.length (fun i => .int .i64 ((Z.getD i 0 : Nat) : Int))) := HZ.out.below hb11
  replace HE : Hid (Below w.heap.size w w11) := HE.out.trans (hb11.mono HE.out.size)
  clear hb11
  go_wp2_with fail
  refine (isPrefix_yes aY ao (halt D f2).length D.length cY co (fun i => ((D.getD i 0 : Nat) : Int)) _ hl2 (by omega) (HY.out.congr (fun i hi => by rw [prefix_getD HP2.out hi])) HO.out).mono ?_
  rintro e w12 ⟨rfl, hb12⟩
  clear HO
  replace HX : Hid (Rd w12 aX (halt D f1).length (fun i => .int .i64 (((halt D f1).getD i 0 : Nat) : Int))) := HX.out.below hb12
  replace HY : Hid (Rd w12 aY (halt D f2).length (fun i => .int .i64 (((halt D f2).getD i 0 : Nat) : Int))) := HY.out.below hb12
  replace HZ : Hid (Rd w12 aZ Z.length (fun i => .int .i64 ((Z.getD i 0 : Nat) : Int))) := HZ.out.below hb12
  replace HE : Hid (Below w.heap.size w w12) := HE.out.trans (hb12.mono HE.out.size)
  clear hb12 HP2 HLEN
  generalize halt D f1 = X at *
  generalize halt D f2 = Y at *
  by_cases hle : X.length ≤ Y.length
  · have hZX : Z = X := by have := HZD.out; rwa [if_pos hle] at this
    subst hZX
    clear HZD
    go_wp2_with fail
    refine (eqInts_yes aZ aX Z.length cZ cX (fun i => ((Z.getD i 0 : Nat) : Int)) _ (by omega) HZ.out HX.out).mono ?_
    rintro e w13 ⟨rfl, hb13⟩
    replace HE : Hid (Below w.heap.size w w13) := HE.out.trans (hb13.mono HE.out.size)
    clear hb13
    go_wp2
    go_ret
    exact ⟨rfl, HE.out⟩
  · have hZY : Z = Y := by have := HZD.out; rwa [if_neg hle] at this
    subst hZY
    clear HZD
    go_wp2_with fail
    refine (eqInts_yes aZ aY Z.length cZ cY (fun i => ((Z.getD i 0 : Nat) : Int)) _ (by omega) HZ.out HY.out).mono ?_
    rintro e w13 ⟨rfl, hb13⟩
    replace HE : Hid (Below w.heap.size w w13) := HE.out.trans (hb13.mono HE.out.size)
    clear hb13
    go_wp2
    go_ret
    exact ⟨rfl, HE.out⟩

end Go.Proofs.Qxb6608942aDoor
