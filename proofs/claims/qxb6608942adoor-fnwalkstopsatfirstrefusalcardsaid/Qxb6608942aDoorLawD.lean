import Derived.Test.Qxb6608942aDoorStops
import Derived.Test.Qxb6608942aDoorLawA
import Derived.Deep.DeepCutAuto
namespace Go.Proofs.Qxb6608942aDoor
open Go.RowKit

theorem cutL_prefix (cont : List Nat → Bool) : ∀ (xs acc : List Nat), cutL cont acc xs <+: acc ++ xs
  | [], acc => by simp [cutL]
  | x :: xs, acc => by
    unfold cutL
    split
    · have := cutL_prefix cont xs (acc ++ [x])
      simpa using this
    · exact ⟨xs, by simp⟩
theorem halt_prefix (D : List Nat) (st : Nat → Bool) : halt D st <+: D := by have h := cutL_prefix (onward st) D []; rwa [List.nil_append] at h
theorem halt_le (D : List Nat) (st : Nat → Bool) : (halt D st).length ≤ D.length := (halt_prefix D st).length_le

theorem lawD_bytes (s : ByteArray) (ap : Option Addr) (n cp : Nat) (aq : Option Addr) (m cq : Nat) (N : Int) (ast : Option Addr) (nst cst : Nat) (w : World) (hs : s.size ≤ maxLen) (hn : n ≤ maxLen) (hm : m ≤ maxLen) (hnst : nst ≤ maxLen) :
    Calls Tryd.prog 25 #[.string s, .slice ap n cp, .slice aq m cq, .int .i64 N, .slice ast nst cst] w fun e w' => ∃ r : Bool, e = .returned (.bool r) ∧ w = w' := by
  unfold maxLen at hs hn hm hnst
  go_enter Tryd.func25, Tryd.ntmps25
  go_wp2
  all_goals go_ret
  all_goals exact ⟨_, rfl, rfl⟩

set_option maxRecDepth 100000 in
set_option maxHeartbeats 1600000 in
theorem lawD (s : ByteArray) (ap : Option Addr) (n cp : Nat) (aq : Option Addr) (m cq : Nat) (N : Int) (ast : Option Addr) (nst cst : Nat) (pos node : Nat → Int) (st : Nat → Bool) (w : World) (hs : s.size ≤ maxLen) (hn : n ≤ maxLen) (hm : m ≤ maxLen) (hnst : nst ≤ maxLen) (hdap : Rd w ap n (fun i => .int .u64 (pos i))) (hdaq : Rd w aq m (fun i => .int .i64 (node i))) (hdast : Rd w ast nst (fun i => .bool (st i))) (hpb : ∀ j, j < n → 0 ≤ pos j ∧ pos j < 18446744073709551616) :
    Calls Tryd.prog 8 #[.string s, .slice ap n cp, .slice aq m cq, .int .i64 N, .slice ast nst cst] w fun e w' => e = .returned (.bool true) ∧ Below w.heap.size w w' := by
  have HA : Hid (Rd w ap n (fun i => .int .u64 (pos i))) := hdap
  have HB : Hid (Rd w aq m (fun i => .int .i64 (node i))) := hdaq
  have Hst : Hid (Rd w ast nst (fun i => .bool (st i))) := hdast
  have HPB : Hid (∀ j, j < n → 0 ≤ pos j ∧ pos j < 18446744073709551616) := hpb
  have HE : Hid (Below w.heap.size w w) := Below.refl _ _
  have hs0 := hs
  have hn0 := hn
  have hm0 := hm
  have hnst0 := hnst
  have q22 := neq22
  have q23 := neq23
  have q35 := neq35
  clear hpb hdap hdaq hdast
  unfold maxLen at hs hn hm hnst
  by_cases x0 : 65536 < s.size
  · go_enter Tryd.func8, Tryd.ntmps8
    go_wp2_with (go_at_call 25; refine (lawD_bytes s ap n cp aq m cq N ast nst cst _ hs0 hn0 hm0 hnst0).mono ?_; rintro e w' ⟨r, rfl, rfl⟩; cases r)
    all_goals (go_ret; exact ⟨rfl, Below.refl _ _⟩)
  have d0 : decide ((65536 : Int) < (s.size : Int)) = false := by simp; omega
  by_cases x1 : 32768 < n
  · go_enter Tryd.func8, Tryd.ntmps8
    go_wp2_with (go_at_call 25; refine (lawD_bytes s ap n cp aq m cq N ast nst cst _ hs0 hn0 hm0 hnst0).mono ?_; rintro e w' ⟨r, rfl, rfl⟩; cases r)
    all_goals (go_ret; exact ⟨rfl, Below.refl _ _⟩)
  have d1 : decide ((32768 : Int) < (n : Int)) = false := by simp; omega
  by_cases x2 : 32768 < m
  · go_enter Tryd.func8, Tryd.ntmps8
    go_wp2_with (go_at_call 25; refine (lawD_bytes s ap n cp aq m cq N ast nst cst _ hs0 hn0 hm0 hnst0).mono ?_; rintro e w' ⟨r, rfl, rfl⟩; cases r)
    all_goals (go_ret; exact ⟨rfl, Below.refl _ _⟩)
  have d2 : decide ((32768 : Int) < (m : Int)) = false := by simp; omega
  by_cases x3 : 65536 < nst
  · go_enter Tryd.func8, Tryd.ntmps8
    go_wp2_with (go_at_call 25; refine (lawD_bytes s ap n cp aq m cq N ast nst cst _ hs0 hn0 hm0 hnst0).mono ?_; rintro e w' ⟨r, rfl, rfl⟩; cases r)
    all_goals (go_ret; exact ⟨rfl, Below.refl _ _⟩)
  have d3 : decide ((65536 : Int) < (nst : Int)) = false := by simp; omega
  by_cases x4 : N < 0
  · go_enter Tryd.func8, Tryd.ntmps8
    go_wp2_with (go_at_call 25; refine (lawD_bytes s ap n cp aq m cq N ast nst cst _ hs0 hn0 hm0 hnst0).mono ?_; rintro e w' ⟨r, rfl, rfl⟩; cases r)
    all_goals (go_ret; exact ⟨rfl, Below.refl _ _⟩)
  have d4 : decide (N < 0) = false := by simp; omega
  obtain ⟨N, rfl⟩ := Int.eq_ofNat_of_zero_le (show 0 ≤ N by omega)
  by_cases x5 : 65536 < (N : Int)
  · go_enter Tryd.func8, Tryd.ntmps8
    go_wp2_with (go_at_call 25; refine (lawD_bytes s ap n cp aq m cq N ast nst cst _ hs0 hn0 hm0 hnst0).mono ?_; rintro e w' ⟨r, rfl, rfl⟩; cases r)
    all_goals (go_ret; exact ⟨rfl, Below.refl _ _⟩)
  have d5 : decide ((65536 : Int) < (N : Int)) = false := by simp; omega
  by_cases x6 : nst < N
  · go_enter Tryd.func8, Tryd.ntmps8
    go_wp2_with (go_at_call 25; refine (lawD_bytes s ap n cp aq m cq N ast nst cst _ hs0 hn0 hm0 hnst0).mono ?_; rintro e w' ⟨r, rfl, rfl⟩; cases r)
    all_goals (go_ret; exact ⟨rfl, Below.refl _ _⟩)
  have d6 : decide (nst < N) = false := by simp; omega
  have eN : N ≤ 65536 := by omega
  have es : s.size ≤ 65536 := by omega
  have en : n ≤ 32768 := by omega
  have em : m ≤ 32768 := by omega
  have enst : nst ≤ 65536 := by omega
  have gnst : N ≤ nst := by omega
  clear x0 x1 x2 x3 x4 x5 x6
  go_enter Tryd.func8, Tryd.ntmps8
  go_upto_if 55 with (go_at_call 25; refine (lawD_bytes s ap n cp aq m cq N ast nst cst _ hs0 hn0 hm0 hnst0).mono ?_; rintro e w' ⟨r, rfl, rfl⟩; cases r)
  · go_ret; exact ⟨rfl, Below.refl _ _⟩
  go_cut [1, 11] (fun s1 s2 wx => ∃ a' c', s1 = .slice a' n c' ∧ Hid (Rd wx a' n (fun i => .int .u64 (pos i))) ∧ Hid (Rd wx aq m (fun i => .int .i64 (node i))) ∧ Hid (Rd wx ast nst (fun i => .bool (st i))) ∧ Hid (Below w.heap.size w wx))
  case first =>
    cases ap with
    | none =>
      go_wp2
      go_meet
      case rel => exact ⟨_, _, rfl, HA, HB, Hst, HE⟩
    | some ad =>
      go_upto_region 11 with (at_make; refine wpList_mk _ rfl _ _ 22 rfl 25 (.int .u64 0) 8 Tryd.underlying22 Tryd.info25 rfl _ _ _ _ n rfl rfl rfl rfl (by omega) (by omega) ?_; intro wk1 own1 hbk1 hsk1)
      go_wp2_with (refine wpList_cp rfl (.tmp 59) (.tmp 60) 22 22 rfl 25 Tryd.underlying22 Tryd.size25 _ n _ w.heap.size rfl rfl 25 _ _ own1 (HA.out.below hbk1) (fun _ => rfl) w.heap.size w hbk1 (Nat.le_refl _) ?_; intro wk2 own2 hbk2)
      go_meet
      case rel => exact ⟨_, _, rfl, own2.rd, HB.out.below hbk2, Hst.out.below hbk2, HE.out.trans (hbk2.mono HE.out.size)⟩
  clear HE HA HB Hst
  obtain ⟨ap1, cp1, rfl, HA, HB, Hst, HE⟩ := hcut
  go_upto_if 64 with fail
  go_cut [2, 12] (fun s1 s2 wx => ∃ a' c', s1 = .slice a' m c' ∧ Hid (Rd wx a' m (fun i => .int .i64 (node i))) ∧ Hid (Rd wx ap1 n (fun i => .int .u64 (pos i))) ∧ Hid (Rd wx ast nst (fun i => .bool (st i))) ∧ Hid (Below w.heap.size w wx))
  case first =>
    cases aq with
    | none =>
      go_wp2
      go_meet
      case rel => exact ⟨_, _, rfl, HB, HA, Hst, HE⟩
    | some ad =>
      go_upto_region 15 with (at_make; refine wpList_mk _ rfl _ _ 23 rfl 3 (.int .i64 0) 8 Tryd.underlying23 Tryd.info3 rfl _ _ _ _ m rfl rfl rfl rfl (by omega) (by omega) ?_; intro wk1 own1 hbk1 hsk1)
      go_wp2_with (refine wpList_cp rfl (.tmp 68) (.tmp 69) 23 23 rfl 3 Tryd.underlying23 Tryd.size3 _ m _ wc.heap.size rfl rfl 3 _ _ own1 (HB.out.below hbk1) (fun _ => rfl) wc.heap.size wc hbk1 (Nat.le_refl _) ?_; intro wk2 own2 hbk2)
      go_meet
      case rel => exact ⟨_, _, rfl, own2.rd, HA.out.below hbk2, Hst.out.below hbk2, HE.out.trans (hbk2.mono HE.out.size)⟩
  clear HE HA HB Hst
  obtain ⟨aq1, cq1, rfl, HB, HA, Hst, HE⟩ := hcut
  go_upto_if 73 with fail
  go_cut [4, 13] (fun s1 s2 wx => ∃ a' c', s1 = .slice a' nst c' ∧ Hid (Rd wx a' nst (fun i => .bool (st i))) ∧ Hid (Rd wx ap1 n (fun i => .int .u64 (pos i))) ∧ Hid (Rd wx aq1 m (fun i => .int .i64 (node i))) ∧ Hid (Below w.heap.size w wx))
  case first =>
    cases ast with
    | none =>
      go_wp2
      go_meet
      case rel => exact ⟨_, _, rfl, Hst, HA, HB, HE⟩
    | some ad =>
      go_upto_region 19 with (at_make; refine wpList_mk _ rfl _ _ 35 rfl 4 (.bool false) 1 Tryd.underlying35 Tryd.info4 rfl _ _ _ _ nst rfl rfl rfl rfl (by omega) (by omega) ?_; intro wk1 own1 hbk1 hsk1)
      go_wp2_with (refine wpList_cp rfl (.tmp 77) (.tmp 78) 35 35 rfl 4 Tryd.underlying35 Tryd.size4 _ nst _ wc.heap.size rfl rfl 4 _ _ own1 (Hst.out.below hbk1) (fun _ => rfl) wc.heap.size wc hbk1 (Nat.le_refl _) ?_; intro wk2 own2 hbk2)
      go_meet
      case rel => exact ⟨_, _, rfl, own2.rd, HA.out.below hbk2, HB.out.below hbk2, HE.out.trans (hbk2.mono HE.out.size)⟩
  clear HE HA HB Hst
  obtain ⟨ast1, cst1, rfl, Hst, HA, HB, HE⟩ := hcut
  by_cases hexs : 16 ≤ s.size ∧ hexTo s 16
  rotate_left
  · have HN : Hid (¬ (16 ≤ s.size ∧ hexTo s 16)) := hexs
    clear hexs
    go_wp2_with fail
    refine (prefixPos_no s _ hs0 HN.out).mono ?_
    rintro e wz ⟨rfl, rfl⟩
    go_wp2
    go_ret
    exact ⟨rfl, HE.out⟩
  obtain ⟨h16s, hxs⟩ := hexs
  have HXs : Hid (hexTo s 16) := hxs
  clear hxs
  go_wp2_with fail
  refine (prefixPos_yes s _ hs0 h16s HXs.out).mono ?_
  rintro e wp ⟨rfl, hwp⟩
  subst hwp
  go_wp2_with fail
  refine (ringOK_any ap1 aq1 n m N cp1 cq1 pos node _ (by omega) (by omega) eN HA.out HB.out).mono ?_
  rintro e wr2 ⟨r, rfl, hr, hbr⟩
  replace HA : Hid (Rd wr2 ap1 n (fun i => .int .u64 (pos i))) := HA.out.below hbr
  replace HB : Hid (Rd wr2 aq1 m (fun i => .int .i64 (node i))) := HB.out.below hbr
  replace Hst : Hid (Rd wr2 ast1 nst (fun i => .bool (st i))) := Hst.out.below hbr
  replace HE : Hid (Below w.heap.size w wr2) := HE.out.trans (hbr.mono HE.out.size)
  clear hbr
  cases r
  · clear hr
    go_wp2
    go_ret
    exact ⟨rfl, HE.out⟩
  have hfit := hr rfl
  clear hr
  obtain rfl : n = m := hfit.len
  obtain ⟨nd, hnd, hgood⟩ := hfit.good HPB.out
  have HG : Hid (Good n N pos nd) := hgood
  replace HB : Hid (Rd wr2 aq1 n (fun i => .int .i64 (nd i : Int))) := HB.out.congr (fun i hi => by rw [hnd i hi])
  clear hfit hnd hgood
  go_wp2_with fail
  refine (newRing_at ap1 aq1 n cp1 cq1 N 1 1 pos nd _ (by omega) rfl HA.out HB.out).mono ?_
  rintro e w3 ⟨rb, pb, rfl, hr3, l1, l2, hb3⟩
  replace HA : Hid (Rd w3 ap1 n (fun i => .int .u64 (pos i))) := HA.out.below hb3
  replace HB : Hid (Rd w3 aq1 n (fun i => .int .i64 (nd i : Int))) := HB.out.below hb3
  replace Hst : Hid (Rd w3 ast1 nst (fun i => .bool (st i))) := Hst.out.below hb3
  replace HE : Hid (Below w.heap.size w w3) := HE.out.trans (hb3.mono HE.out.size)
  have HR : Hid (RingAt w3 rb pb n N 1 pos (fun i => (nd i : Int))) := hr3
  clear hr3 hb3
  go_wp2_with fail
  refine (order_good s rb pb n N 1 pos nd _ hs0 h16s HXs.out HR.out l1 l2 (by omega) (by omega) HG.out).mono ?_
  rintro e w4 ⟨ao, co, rfl, ho, hb4⟩
  replace HA : Hid (Rd w4 ap1 n (fun i => .int .u64 (pos i))) := HA.out.below hb4
  replace HB : Hid (Rd w4 aq1 n (fun i => .int .i64 (nd i : Int))) := HB.out.below hb4
  replace Hst : Hid (Rd w4 ast1 nst (fun i => .bool (st i))) := Hst.out.below hb4
  replace HR : Hid (RingAt w4 rb pb n N 1 pos (fun i => (nd i : Int))) := HR.out.below hb4 l1 l2
  replace HE : Hid (Below w.heap.size w w4) := HE.out.trans (hb4.mono HE.out.size)
  have HO : Hid (Rd w4 ao N (fun i => .int .i64 (((ordP n pos nd (pvTo s 16)).getD i 0 : Nat) : Int))) := ho
  replace l1 : rb < w4.heap.size := by have := hb4.size; omega
  replace l2 : pb < w4.heap.size := by have := hb4.size; omega
  clear ho hb4
  go_wp2_with fail
  refine (zzWalk_any s rb pb n N 1 ast1 nst cst1 st pos nd _ hs0 h16s HXs.out HR.out l1 l2 (by omega) (by omega) HG.out gnst Hst.out).mono ?_
  rintro e w5 ⟨ag, cg, rfl, hgt, hb5⟩
  clear HR
  replace HA : Hid (Rd w5 ap1 n (fun i => .int .u64 (pos i))) := HA.out.below hb5
  replace HB : Hid (Rd w5 aq1 n (fun i => .int .i64 (nd i : Int))) := HB.out.below hb5
  replace Hst : Hid (Rd w5 ast1 nst (fun i => .bool (st i))) := Hst.out.below hb5
  replace HO : Hid (Rd w5 ao N (fun i => .int .i64 (((ordP n pos nd (pvTo s 16)).getD i 0 : Nat) : Int))) := HO.out.below hb5
  replace HE : Hid (Below w.heap.size w w5) := HE.out.trans (hb5.mono HE.out.size)
  have HT : Hid (Rd w5 ag (halt (ordP n pos nd (pvTo s 16)) st).length (fun i => .int .i64 (((halt (ordP n pos nd (pvTo s 16)) st).getD i 0 : Nat) : Int))) := hgt
  clear hgt hb5 l1 l2
  have hps := pv_range HXs.out
  have HF : Hid (OrderFits n N pos nd (pvTo s 16) (fun i => (ordP n pos nd (pvTo s 16)).getD i 0)) := ordP_fits HG.out hps.1 hps.2
  clear hps
  go_wp2_with fail
  refine (orderOK_yes ao ap1 aq1 n N co cp1 cq1 pos nd _ (pvTo s 16) _ (by omega) eN HO.out HA.out HB.out HG.out.range HG.out.pos HF.out).mono ?_
  rintro e w6 ⟨rfl, hb6⟩
  clear HA HB
  replace Hst : Hid (Rd w6 ast1 nst (fun i => .bool (st i))) := Hst.out.below hb6
  replace HO : Hid (Rd w6 ao N (fun i => .int .i64 (((ordP n pos nd (pvTo s 16)).getD i 0 : Nat) : Int))) := HO.out.below hb6
  replace HT : Hid (Rd w6 ag (halt (ordP n pos nd (pvTo s 16)) st).length (fun i => .int .i64 (((halt (ordP n pos nd (pvTo s 16)) st).getD i 0 : Nat) : Int))) := HT.out.below hb6
  replace HE : Hid (Below w.heap.size w w6) := HE.out.trans (hb6.mono HE.out.size)
  clear hb6 HF
  have HLEN : Hid ((ordP n pos nd (pvTo s 16)).length = N) := ordP_len HG.out _
  have HLT : Hid (∀ x, x ∈ (ordP n pos nd (pvTo s 16)) → x < nst) := fun x hx => by have := ordP_lt HG.out _ x hx; omega
  have HHL : Hid ((halt (ordP n pos nd (pvTo s 16)) st).length ≤ N) := by show _ ≤ _; rw [← HLEN.out]; exact halt_le _ _
  generalize (ordP n pos nd (pvTo s 16)) = D at *
  have hDN : D.length = N := HLEN.out
  subst hDN
  go_wp2_with fail
  refine (cutAtStop_any ao ast1 co nst cst1 D st _ eN (by omega) HLT.out HO.out Hst.out).mono ?_
  rintro e w7 ⟨ah, ch, rfl, hrd, hb7⟩
  replace HT : Hid (Rd w7 ag (halt D st).length (fun i => .int .i64 (((halt D st).getD i 0 : Nat) : Int))) := HT.out.below hb7
  replace HE : Hid (Below w.heap.size w w7) := HE.out.trans (hb7.mono HE.out.size)
  have HC : Hid (Rd w7 ah (halt D st).length (fun i => .int .i64 (((halt D st).getD i 0 : Nat) : Int))) := hrd
  clear hb7 hrd HO Hst HLT
  go_wp2_with fail
  refine (eqInts_yes ag ah (halt D st).length cg ch (fun i => (((halt D st).getD i 0 : Nat) : Int)) _ (by have := HHL.out; omega) HT.out HC.out).mono ?_
  rintro e w8 ⟨rfl, hb8⟩
  replace HE : Hid (Below w.heap.size w w8) := HE.out.trans (hb8.mono HE.out.size)
  clear hb8
  go_wp2
  go_ret
  exact ⟨rfl, HE.out⟩

end Go.Proofs.Qxb6608942aDoor
