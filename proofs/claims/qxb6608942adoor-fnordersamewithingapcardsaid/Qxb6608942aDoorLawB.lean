import Derived.Test.Qxb6608942aDoorGap
import Derived.Test.Qxb6608942aDoorLawA
import Derived.Deep.DeepCutAuto
namespace Go.Proofs.Qxb6608942aDoor
open Go.RowKit

theorem lawB_bytes (s : ByteArray) (t : ByteArray) (ap : Option Addr) (n cp : Nat) (aq : Option Addr) (m cq : Nat) (N : Int) (w : World) (hs : s.size ≤ maxLen) (ht : t.size ≤ maxLen) (hn : n ≤ maxLen) (hm : m ≤ maxLen) :
    Calls Tryd.prog 16 #[.string s, .string t, .slice ap n cp, .slice aq m cq, .int .i64 N] w fun e w' => ∃ r : Bool, e = .returned (.bool r) ∧ w = w' := by
  unfold maxLen at hs ht hn hm
  go_enter Tryd.func16, Tryd.ntmps16
  go_wp2
  all_goals go_ret
  all_goals exact ⟨_, rfl, rfl⟩

set_option maxRecDepth 100000 in
set_option maxHeartbeats 1600000 in
theorem lawB (s : ByteArray) (t : ByteArray) (ap : Option Addr) (n cp : Nat) (aq : Option Addr) (m cq : Nat) (N : Int) (pos node : Nat → Int) (w : World) (hs : s.size ≤ maxLen) (ht : t.size ≤ maxLen) (hn : n ≤ maxLen) (hm : m ≤ maxLen) (hdap : Rd w ap n (fun i => .int .u64 (pos i))) (hdaq : Rd w aq m (fun i => .int .i64 (node i))) (hpb : ∀ j, j < n → 0 ≤ pos j ∧ pos j < 18446744073709551616) :
    Calls Tryd.prog 4 #[.string s, .string t, .slice ap n cp, .slice aq m cq, .int .i64 N] w fun e w' => e = .returned (.bool true) ∧ Below w.heap.size w w' := by
  have HA : Hid (Rd w ap n (fun i => .int .u64 (pos i))) := hdap
  have HB : Hid (Rd w aq m (fun i => .int .i64 (node i))) := hdaq
  have HPB : Hid (∀ j, j < n → 0 ≤ pos j ∧ pos j < 18446744073709551616) := hpb
  have HE : Hid (Below w.heap.size w w) := Below.refl _ _
  have hs0 := hs
  have ht0 := ht
  have hn0 := hn
  have hm0 := hm
  have q22 := neq22
  have q23 := neq23
  clear hpb hdap hdaq
  unfold maxLen at hs ht hn hm
  by_cases x0 : 65536 < s.size
  · go_enter Tryd.func4, Tryd.ntmps4
    go_wp2_with (go_at_call 16; refine (lawB_bytes s t ap n cp aq m cq N _ hs0 ht0 hn0 hm0).mono ?_; rintro e w' ⟨r, rfl, rfl⟩; cases r)
    all_goals (go_ret; exact ⟨rfl, Below.refl _ _⟩)
  have d0 : decide ((65536 : Int) < (s.size : Int)) = false := by simp; omega
  by_cases x1 : 65536 < t.size
  · go_enter Tryd.func4, Tryd.ntmps4
    go_wp2_with (go_at_call 16; refine (lawB_bytes s t ap n cp aq m cq N _ hs0 ht0 hn0 hm0).mono ?_; rintro e w' ⟨r, rfl, rfl⟩; cases r)
    all_goals (go_ret; exact ⟨rfl, Below.refl _ _⟩)
  have d1 : decide ((65536 : Int) < (t.size : Int)) = false := by simp; omega
  by_cases x2 : 32768 < n
  · go_enter Tryd.func4, Tryd.ntmps4
    go_wp2_with (go_at_call 16; refine (lawB_bytes s t ap n cp aq m cq N _ hs0 ht0 hn0 hm0).mono ?_; rintro e w' ⟨r, rfl, rfl⟩; cases r)
    all_goals (go_ret; exact ⟨rfl, Below.refl _ _⟩)
  have d2 : decide ((32768 : Int) < (n : Int)) = false := by simp; omega
  by_cases x3 : 32768 < m
  · go_enter Tryd.func4, Tryd.ntmps4
    go_wp2_with (go_at_call 16; refine (lawB_bytes s t ap n cp aq m cq N _ hs0 ht0 hn0 hm0).mono ?_; rintro e w' ⟨r, rfl, rfl⟩; cases r)
    all_goals (go_ret; exact ⟨rfl, Below.refl _ _⟩)
  have d3 : decide ((32768 : Int) < (m : Int)) = false := by simp; omega
  by_cases x4 : N < 0
  · go_enter Tryd.func4, Tryd.ntmps4
    go_wp2_with (go_at_call 16; refine (lawB_bytes s t ap n cp aq m cq N _ hs0 ht0 hn0 hm0).mono ?_; rintro e w' ⟨r, rfl, rfl⟩; cases r)
    all_goals (go_ret; exact ⟨rfl, Below.refl _ _⟩)
  have d4 : decide (N < 0) = false := by simp; omega
  obtain ⟨N, rfl⟩ := Int.eq_ofNat_of_zero_le (show 0 ≤ N by omega)
  by_cases x5 : 65536 < (N : Int)
  · go_enter Tryd.func4, Tryd.ntmps4
    go_wp2_with (go_at_call 16; refine (lawB_bytes s t ap n cp aq m cq N _ hs0 ht0 hn0 hm0).mono ?_; rintro e w' ⟨r, rfl, rfl⟩; cases r)
    all_goals (go_ret; exact ⟨rfl, Below.refl _ _⟩)
  have d5 : decide ((65536 : Int) < (N : Int)) = false := by simp; omega
  have eN : N ≤ 65536 := by omega
  have es : s.size ≤ 65536 := by omega
  have et : t.size ≤ 65536 := by omega
  have en : n ≤ 32768 := by omega
  have em : m ≤ 32768 := by omega
  clear x0 x1 x2 x3 x4 x5
  go_enter Tryd.func4, Tryd.ntmps4
  go_upto_if 54 with (go_at_call 16; refine (lawB_bytes s t ap n cp aq m cq N _ hs0 ht0 hn0 hm0).mono ?_; rintro e w' ⟨r, rfl, rfl⟩; cases r)
  · go_ret; exact ⟨rfl, Below.refl _ _⟩
  go_cut [2, 11] (fun s1 s2 wx => ∃ a' c', s1 = .slice a' n c' ∧ Hid (Rd wx a' n (fun i => .int .u64 (pos i))) ∧ Hid (Rd wx aq m (fun i => .int .i64 (node i))) ∧ Hid (Below w.heap.size w wx))
  case first =>
    cases ap with
    | none =>
      go_wp2
      go_meet
      case rel => exact ⟨_, _, rfl, HA, HB, HE⟩
    | some ad =>
      go_upto_region 9 with (at_make; refine wpList_mk _ rfl _ _ 22 rfl 25 (.int .u64 0) 8 Tryd.underlying22 Tryd.info25 rfl _ _ _ _ n rfl rfl rfl rfl (by omega) (by omega) ?_; intro wk1 own1 hbk1 hsk1)
      go_wp2_with (refine wpList_cp rfl (.tmp 58) (.tmp 59) 22 22 rfl 25 Tryd.underlying22 Tryd.size25 _ n _ w.heap.size rfl rfl 25 _ _ own1 (HA.out.below hbk1) (fun _ => rfl) w.heap.size w hbk1 (Nat.le_refl _) ?_; intro wk2 own2 hbk2)
      go_meet
      case rel => exact ⟨_, _, rfl, own2.rd, HB.out.below hbk2, HE.out.trans (hbk2.mono HE.out.size)⟩
  clear HE HA HB
  obtain ⟨ap1, cp1, rfl, HA, HB, HE⟩ := hcut
  go_upto_if 63 with fail
  go_cut [3, 12] (fun s1 s2 wx => ∃ a' c', s1 = .slice a' m c' ∧ Hid (Rd wx a' m (fun i => .int .i64 (node i))) ∧ Hid (Rd wx ap1 n (fun i => .int .u64 (pos i))) ∧ Hid (Below w.heap.size w wx))
  case first =>
    cases aq with
    | none =>
      go_wp2
      go_meet
      case rel => exact ⟨_, _, rfl, HB, HA, HE⟩
    | some ad =>
      go_upto_region 13 with (at_make; refine wpList_mk _ rfl _ _ 23 rfl 3 (.int .i64 0) 8 Tryd.underlying23 Tryd.info3 rfl _ _ _ _ m rfl rfl rfl rfl (by omega) (by omega) ?_; intro wk1 own1 hbk1 hsk1)
      go_wp2_with (refine wpList_cp rfl (.tmp 67) (.tmp 68) 23 23 rfl 3 Tryd.underlying23 Tryd.size3 _ m _ wc.heap.size rfl rfl 3 _ _ own1 (HB.out.below hbk1) (fun _ => rfl) wc.heap.size wc hbk1 (Nat.le_refl _) ?_; intro wk2 own2 hbk2)
      go_meet
      case rel => exact ⟨_, _, rfl, own2.rd, HA.out.below hbk2, HE.out.trans (hbk2.mono HE.out.size)⟩
  clear HE HA HB
  obtain ⟨aq1, cq1, rfl, HB, HA, HE⟩ := hcut
  by_cases hexs : 16 ≤ s.size ∧ hexTo s 16
  rotate_left
  · have HN : Hid (¬ (16 ≤ s.size ∧ hexTo s 16)) := hexs
    clear hexs
    go_wp2_with fail
    refine (prefixPos_no s _ hs0 HN.out).mono ?_
    rintro e wz ⟨rfl, rfl⟩
    go_wp2
    go_ret
    exact ⟨rfl, HE.out⟩
  obtain ⟨h16s, hxs⟩ := hexs
  have HXs : Hid (hexTo s 16) := hxs
  clear hxs
  go_wp2_with fail
  refine (prefixPos_yes s _ hs0 h16s HXs.out).mono ?_
  rintro e wp ⟨rfl, hwp⟩
  subst hwp
  by_cases hext : 16 ≤ t.size ∧ hexTo t 16
  rotate_left
  · have HN : Hid (¬ (16 ≤ t.size ∧ hexTo t 16)) := hext
    clear hext
    go_wp2_with fail
    refine (prefixPos_no t _ ht0 HN.out).mono ?_
    rintro e wz ⟨rfl, rfl⟩
    go_wp2
    go_ret
    exact ⟨rfl, HE.out⟩
  obtain ⟨h16t, hxt⟩ := hext
  have HXt : Hid (hexTo t 16) := hxt
  clear hxt
  go_wp2_with fail
  refine (prefixPos_yes t _ ht0 h16t HXt.out).mono ?_
  rintro e wp ⟨rfl, hwp⟩
  subst hwp
  go_wp2_with fail
  refine (ringOK_any ap1 aq1 n m N cp1 cq1 pos node _ (by omega) (by omega) eN HA.out HB.out).mono ?_
  rintro e wr2 ⟨r, rfl, hr, hbr⟩
  replace HA : Hid (Rd wr2 ap1 n (fun i => .int .u64 (pos i))) := HA.out.below hbr
  replace HB : Hid (Rd wr2 aq1 m (fun i => .int .i64 (node i))) := HB.out.below hbr
  replace HE : Hid (Below w.heap.size w wr2) := HE.out.trans (hbr.mono HE.out.size)
  clear hbr
  cases r
  · clear hr
    go_wp2
    go_ret
    exact ⟨rfl, HE.out⟩
  have hfit := hr rfl
  clear hr
  obtain rfl : n = m := hfit.len
  obtain ⟨nd, hnd, hgood⟩ := hfit.good HPB.out
  have HG : Hid (Good n N pos nd) := hgood
  replace HB : Hid (Rd wr2 aq1 n (fun i => .int .i64 (nd i : Int))) := HB.out.congr (fun i hi => by rw [hnd i hi])
  clear hfit hnd hgood
  go_wp2_with fail
  go_loop [18] (fun i => ∃ k : Nat, k ≤ n ∧ i = .int .i64 k ∧ Hid (∀ j, j < k → IntKind.u64.wrap (pvTo t 16 - pvTo s 16) ≤ IntKind.u64.wrap (pos j - pvTo s 16))) (fun i => n - (intOf i).toNat)
  case atStart => exact ⟨0, Nat.zero_le _, rfl, fun j hj => by omega⟩
  obtain ⟨k, hk, rfl, HK⟩ := hrel
  by_cases hlt : k < n
  · obtain ⟨ba, oa, rfl, hca⟩ := HA.out (by omega)
    have c1 : wr2.cell? ⟨ba, oa + k, none⟩ = some (.int .u64 (pos k)) := hca k hlt
    have hlt1 : (k : Int) < (n : Int) := by omega
    clear hca
    by_cases hc : IntKind.u64.wrap (pos k - pvTo s 16) < IntKind.u64.wrap (pvTo t 16 - pvTo s 16)
    · go_wp2
      go_ret
      exact ⟨rfl, HE.out⟩
    · go_wp2
      go_round
      case rel => exact ⟨k + 1, by omega, by go_num, fun j hj => by
        by_cases e : j = k
        · subst e; omega
        · exact HK.out j (by omega)⟩
      case measure => simp [intOf]; omega
  obtain rfl : k = n := by omega
  have hps := pv_range HXs.out
  have hpt := pv_range HXt.out
  have HSAME : Hid (ordP k pos nd (pvTo s 16) = ordP k pos nd (pvTo t 16)) := gap_same HG.out hps.1 hps.2 hpt.1 hpt.2 (fun j hj => by
    have := HK.out j hj
    rw [wrap_gap, wrap_dst] at this
    exact this)
  clear HK hpt
  go_wp2_with fail
  refine (newRing_at ap1 aq1 k cp1 cq1 N 1 1 pos nd _ (by omega) rfl HA.out HB.out).mono ?_
  rintro e w3 ⟨rb, pb, rfl, hr3, l1, l2, hb3⟩
  replace HA : Hid (Rd w3 ap1 k (fun i => .int .u64 (pos i))) := HA.out.below hb3
  replace HB : Hid (Rd w3 aq1 k (fun i => .int .i64 (nd i : Int))) := HB.out.below hb3
  replace HE : Hid (Below w.heap.size w w3) := HE.out.trans (hb3.mono HE.out.size)
  have HR : Hid (RingAt w3 rb pb k N 1 pos (fun i => (nd i : Int))) := hr3
  clear hr3 hb3
  go_wp2_with fail
  refine (order_good s rb pb k N 1 pos nd _ hs0 h16s HXs.out HR.out l1 l2 (by omega) (by omega) HG.out).mono ?_
  rintro e w4 ⟨ao, co, rfl, ho, hb4⟩
  replace HA : Hid (Rd w4 ap1 k (fun i => .int .u64 (pos i))) := HA.out.below hb4
  replace HB : Hid (Rd w4 aq1 k (fun i => .int .i64 (nd i : Int))) := HB.out.below hb4
  replace HE : Hid (Below w.heap.size w w4) := HE.out.trans (hb4.mono HE.out.size)
  replace HR : Hid (RingAt w4 rb pb k N 1 pos (fun i => (nd i : Int))) := HR.out.below hb4 l1 l2
  have HO : Hid (Rd w4 ao N (fun i => .int .i64 (((ordP k pos nd (pvTo s 16)).getD i 0 : Nat) : Int))) := ho
  have l3 : rb < w4.heap.size := by have := hb4.size; omega
  have l4 : pb < w4.heap.size := by have := hb4.size; omega
  clear ho hb4 l1 l2
  go_wp2_with fail
  refine (order_good t rb pb k N 1 pos nd _ ht0 h16t HXt.out HR.out l3 l4 (by omega) (by omega) HG.out).mono ?_
  rw [← HSAME.out]
  rintro e w5 ⟨a2, c2, rfl, ho2, hb5⟩
  replace HA : Hid (Rd w5 ap1 k (fun i => .int .u64 (pos i))) := HA.out.below hb5
  replace HB : Hid (Rd w5 aq1 k (fun i => .int .i64 (nd i : Int))) := HB.out.below hb5
  replace HE : Hid (Below w.heap.size w w5) := HE.out.trans (hb5.mono HE.out.size)
  replace HO : Hid (Rd w5 ao N (fun i => .int .i64 (((ordP k pos nd (pvTo s 16)).getD i 0 : Nat) : Int))) := HO.out.below hb5
  have HO2 : Hid (Rd w5 a2 N (fun i => .int .i64 (((ordP k pos nd (pvTo s 16)).getD i 0 : Nat) : Int))) := ho2
  have HF : Hid (OrderFits k N pos nd (pvTo s 16) (fun i => (ordP k pos nd (pvTo s 16)).getD i 0)) := ordP_fits HG.out hps.1 hps.2
  clear ho2 hb5 hps HR HSAME l3 l4
  go_wp2_with fail
  refine (orderOK_yes ao ap1 aq1 k N co cp1 cq1 pos nd _ (pvTo s 16) _ (by omega) eN HO.out HA.out HB.out HG.out.range HG.out.pos HF.out).mono ?_
  rintro e w6 ⟨rfl, hb6⟩
  replace HE : Hid (Below w.heap.size w w6) := HE.out.trans (hb6.mono HE.out.size)
  replace HO : Hid (Rd w6 ao N (fun i => .int .i64 (((ordP k pos nd (pvTo s 16)).getD i 0 : Nat) : Int))) := HO.out.below hb6
  replace HO2 : Hid (Rd w6 a2 N (fun i => .int .i64 (((ordP k pos nd (pvTo s 16)).getD i 0 : Nat) : Int))) := HO2.out.below hb6
  clear hb6 HA HB HF
  go_wp2_with fail
  refine (eqInts_yes ao a2 N co c2 (fun i => (((ordP k pos nd (pvTo s 16)).getD i 0 : Nat) : Int)) _ (by omega) HO.out HO2.out).mono ?_
  rintro e w7 ⟨rfl, hb7⟩
  replace HE : Hid (Below w.heap.size w w7) := HE.out.trans (hb7.mono HE.out.size)
  clear hb7
  go_wp2
  go_ret
  exact ⟨rfl, HE.out⟩

end Go.Proofs.Qxb6608942aDoor
