import Derived.Test.Qxb6608942aDoorFirst
import Derived.Test.Qxb6608942aDoorLawA
import Derived.Deep.DeepCutAuto
namespace Go.Proofs.Qxb6608942aDoor
open Go.RowKit

theorem lawF_bytes (s : ByteArray) (ap : Option Addr) (n cp : Nat) (aq : Option Addr) (m cq : Nat) (N : Int) (R : Int) (aus : Option Addr) (nus cus : Nat) (w : World) (hs : s.size ≤ maxLen) (hn : n ≤ maxLen) (hm : m ≤ maxLen) (hnus : nus ≤ maxLen) :
    Calls Tryd.prog 18 #[.string s, .slice ap n cp, .slice aq m cq, .int .i64 N, .int .i64 R, .slice aus nus cus] w fun e w' => ∃ r : Bool, e = .returned (.bool r) ∧ w = w' := by
  unfold maxLen at hs hn hm hnus
  go_enter Tryd.func18, Tryd.ntmps18
  go_wp2
  all_goals go_ret
  all_goals exact ⟨_, rfl, rfl⟩

set_option maxRecDepth 100000 in
set_option maxHeartbeats 1600000 in
theorem lawF (s : ByteArray) (ap : Option Addr) (n cp : Nat) (aq : Option Addr) (m cq : Nat) (N : Int) (R : Int) (aus : Option Addr) (nus cus : Nat) (pos node : Nat → Int) (us : Nat → Bool) (w : World) (hs : s.size ≤ maxLen) (hn : n ≤ maxLen) (hm : m ≤ maxLen) (hnus : nus ≤ maxLen) (hdap : Rd w ap n (fun i => .int .u64 (pos i))) (hdaq : Rd w aq m (fun i => .int .i64 (node i))) (hdaus : Rd w aus nus (fun i => .bool (us i))) (hpb : ∀ j, j < n → 0 ≤ pos j ∧ pos j < 18446744073709551616) :
    Calls Tryd.prog 5 #[.string s, .slice ap n cp, .slice aq m cq, .int .i64 N, .int .i64 R, .slice aus nus cus] w fun e w' => e = .returned (.bool true) ∧ Below w.heap.size w w' := by
  have HA : Hid (Rd w ap n (fun i => .int .u64 (pos i))) := hdap
  have HB : Hid (Rd w aq m (fun i => .int .i64 (node i))) := hdaq
  have Hus : Hid (Rd w aus nus (fun i => .bool (us i))) := hdaus
  have HPB : Hid (∀ j, j < n → 0 ≤ pos j ∧ pos j < 18446744073709551616) := hpb
  have HE : Hid (Below w.heap.size w w) := Below.refl _ _
  have hs0 := hs
  have hn0 := hn
  have hm0 := hm
  have hnus0 := hnus
  have q22 := neq22
  have q23 := neq23
  have q35 := neq35
  clear hpb hdap hdaq hdaus
  unfold maxLen at hs hn hm hnus
  by_cases x0 : 65536 < s.size
  · go_enter Tryd.func5, Tryd.ntmps5
    go_wp2_with (go_at_call 18; refine (lawF_bytes s ap n cp aq m cq N R aus nus cus _ hs0 hn0 hm0 hnus0).mono ?_; rintro e w' ⟨r, rfl, rfl⟩; cases r)
    all_goals (go_ret; exact ⟨rfl, Below.refl _ _⟩)
  have d0 : decide ((65536 : Int) < (s.size : Int)) = false := by simp; omega
  by_cases x1 : 32768 < n
  · go_enter Tryd.func5, Tryd.ntmps5
    go_wp2_with (go_at_call 18; refine (lawF_bytes s ap n cp aq m cq N R aus nus cus _ hs0 hn0 hm0 hnus0).mono ?_; rintro e w' ⟨r, rfl, rfl⟩; cases r)
    all_goals (go_ret; exact ⟨rfl, Below.refl _ _⟩)
  have d1 : decide ((32768 : Int) < (n : Int)) = false := by simp; omega
  by_cases x2 : 32768 < m
  · go_enter Tryd.func5, Tryd.ntmps5
    go_wp2_with (go_at_call 18; refine (lawF_bytes s ap n cp aq m cq N R aus nus cus _ hs0 hn0 hm0 hnus0).mono ?_; rintro e w' ⟨r, rfl, rfl⟩; cases r)
    all_goals (go_ret; exact ⟨rfl, Below.refl _ _⟩)
  have d2 : decide ((32768 : Int) < (m : Int)) = false := by simp; omega
  by_cases x3 : 65536 < nus
  · go_enter Tryd.func5, Tryd.ntmps5
    go_wp2_with (go_at_call 18; refine (lawF_bytes s ap n cp aq m cq N R aus nus cus _ hs0 hn0 hm0 hnus0).mono ?_; rintro e w' ⟨r, rfl, rfl⟩; cases r)
    all_goals (go_ret; exact ⟨rfl, Below.refl _ _⟩)
  have d3 : decide ((65536 : Int) < (nus : Int)) = false := by simp; omega
  by_cases x4 : N < 0
  · go_enter Tryd.func5, Tryd.ntmps5
    go_wp2_with (go_at_call 18; refine (lawF_bytes s ap n cp aq m cq N R aus nus cus _ hs0 hn0 hm0 hnus0).mono ?_; rintro e w' ⟨r, rfl, rfl⟩; cases r)
    all_goals (go_ret; exact ⟨rfl, Below.refl _ _⟩)
  have d4 : decide (N < 0) = false := by simp; omega
  obtain ⟨N, rfl⟩ := Int.eq_ofNat_of_zero_le (show 0 ≤ N by omega)
  by_cases x5 : 65536 < (N : Int)
  · go_enter Tryd.func5, Tryd.ntmps5
    go_wp2_with (go_at_call 18; refine (lawF_bytes s ap n cp aq m cq N R aus nus cus _ hs0 hn0 hm0 hnus0).mono ?_; rintro e w' ⟨r, rfl, rfl⟩; cases r)
    all_goals (go_ret; exact ⟨rfl, Below.refl _ _⟩)
  have d5 : decide ((65536 : Int) < (N : Int)) = false := by simp; omega
  by_cases x6 : R < 1
  · go_enter Tryd.func5, Tryd.ntmps5
    go_wp2_with (go_at_call 18; refine (lawF_bytes s ap n cp aq m cq N R aus nus cus _ hs0 hn0 hm0 hnus0).mono ?_; rintro e w' ⟨r, rfl, rfl⟩; cases r)
    all_goals (go_ret; exact ⟨rfl, Below.refl _ _⟩)
  have d6 : decide (R < 1) = false := by simp; omega
  obtain ⟨R, rfl⟩ := Int.eq_ofNat_of_zero_le (show 0 ≤ R by omega)
  by_cases x7 : 65536 < (R : Int)
  · go_enter Tryd.func5, Tryd.ntmps5
    go_wp2_with (go_at_call 18; refine (lawF_bytes s ap n cp aq m cq N R aus nus cus _ hs0 hn0 hm0 hnus0).mono ?_; rintro e w' ⟨r, rfl, rfl⟩; cases r)
    all_goals (go_ret; exact ⟨rfl, Below.refl _ _⟩)
  have d7 : decide ((65536 : Int) < (R : Int)) = false := by simp; omega
  by_cases x8 : nus < N
  · go_enter Tryd.func5, Tryd.ntmps5
    go_wp2_with (go_at_call 18; refine (lawF_bytes s ap n cp aq m cq N R aus nus cus _ hs0 hn0 hm0 hnus0).mono ?_; rintro e w' ⟨r, rfl, rfl⟩; cases r)
    all_goals (go_ret; exact ⟨rfl, Below.refl _ _⟩)
  have d8 : decide (nus < N) = false := by simp; omega
  have eN : N ≤ 65536 := by omega
  have es : s.size ≤ 65536 := by omega
  have eR1 : 1 ≤ R := by omega
  have eR : R ≤ 65536 := by omega
  have en : n ≤ 32768 := by omega
  have em : m ≤ 32768 := by omega
  have enus : nus ≤ 65536 := by omega
  have gnus : N ≤ nus := by omega
  clear x0 x1 x2 x3 x4 x5 x6 x7 x8
  go_enter Tryd.func5, Tryd.ntmps5
  go_upto_if 66 with (go_at_call 18; refine (lawF_bytes s ap n cp aq m cq N R aus nus cus _ hs0 hn0 hm0 hnus0).mono ?_; rintro e w' ⟨r, rfl, rfl⟩; cases r)
  · go_ret; exact ⟨rfl, Below.refl _ _⟩
  go_cut [1, 13] (fun s1 s2 wx => ∃ a' c', s1 = .slice a' n c' ∧ Hid (Rd wx a' n (fun i => .int .u64 (pos i))) ∧ Hid (Rd wx aq m (fun i => .int .i64 (node i))) ∧ Hid (Rd wx aus nus (fun i => .bool (us i))) ∧ Hid (Below w.heap.size w wx))
  case first =>
    cases ap with
    | none =>
      go_wp2
      go_meet
      case rel => exact ⟨_, _, rfl, HA, HB, Hus, HE⟩
    | some ad =>
      go_upto_region 11 with (at_make; refine wpList_mk _ rfl _ _ 22 rfl 25 (.int .u64 0) 8 Tryd.underlying22 Tryd.info25 rfl _ _ _ _ n rfl rfl rfl rfl (by omega) (by omega) ?_; intro wk1 own1 hbk1 hsk1)
      go_wp2_with (refine wpList_cp rfl (.tmp 70) (.tmp 71) 22 22 rfl 25 Tryd.underlying22 Tryd.size25 _ n _ w.heap.size rfl rfl 25 _ _ own1 (HA.out.below hbk1) (fun _ => rfl) w.heap.size w hbk1 (Nat.le_refl _) ?_; intro wk2 own2 hbk2)
      go_meet
      case rel => exact ⟨_, _, rfl, own2.rd, HB.out.below hbk2, Hus.out.below hbk2, HE.out.trans (hbk2.mono HE.out.size)⟩
  clear HE HA HB Hus
  obtain ⟨ap1, cp1, rfl, HA, HB, Hus, HE⟩ := hcut
  go_upto_if 75 with fail
  go_cut [2, 14] (fun s1 s2 wx => ∃ a' c', s1 = .slice a' m c' ∧ Hid (Rd wx a' m (fun i => .int .i64 (node i))) ∧ Hid (Rd wx ap1 n (fun i => .int .u64 (pos i))) ∧ Hid (Rd wx aus nus (fun i => .bool (us i))) ∧ Hid (Below w.heap.size w wx))
  case first =>
    cases aq with
    | none =>
      go_wp2
      go_meet
      case rel => exact ⟨_, _, rfl, HB, HA, Hus, HE⟩
    | some ad =>
      go_upto_region 15 with (at_make; refine wpList_mk _ rfl _ _ 23 rfl 3 (.int .i64 0) 8 Tryd.underlying23 Tryd.info3 rfl _ _ _ _ m rfl rfl rfl rfl (by omega) (by omega) ?_; intro wk1 own1 hbk1 hsk1)
      go_wp2_with (refine wpList_cp rfl (.tmp 79) (.tmp 80) 23 23 rfl 3 Tryd.underlying23 Tryd.size3 _ m _ wc.heap.size rfl rfl 3 _ _ own1 (HB.out.below hbk1) (fun _ => rfl) wc.heap.size wc hbk1 (Nat.le_refl _) ?_; intro wk2 own2 hbk2)
      go_meet
      case rel => exact ⟨_, _, rfl, own2.rd, HA.out.below hbk2, Hus.out.below hbk2, HE.out.trans (hbk2.mono HE.out.size)⟩
  clear HE HA HB Hus
  obtain ⟨aq1, cq1, rfl, HB, HA, Hus, HE⟩ := hcut
  go_upto_if 84 with fail
  go_cut [5, 15] (fun s1 s2 wx => ∃ a' c', s1 = .slice a' nus c' ∧ Hid (Rd wx a' nus (fun i => .bool (us i))) ∧ Hid (Rd wx ap1 n (fun i => .int .u64 (pos i))) ∧ Hid (Rd wx aq1 m (fun i => .int .i64 (node i))) ∧ Hid (Below w.heap.size w wx))
  case first =>
    cases aus with
    | none =>
      go_wp2
      go_meet
      case rel => exact ⟨_, _, rfl, Hus, HA, HB, HE⟩
    | some ad =>
      go_upto_region 19 with (at_make; refine wpList_mk _ rfl _ _ 35 rfl 4 (.bool false) 1 Tryd.underlying35 Tryd.info4 rfl _ _ _ _ nus rfl rfl rfl rfl (by omega) (by omega) ?_; intro wk1 own1 hbk1 hsk1)
      go_wp2_with (refine wpList_cp rfl (.tmp 88) (.tmp 89) 35 35 rfl 4 Tryd.underlying35 Tryd.size4 _ nus _ wc.heap.size rfl rfl 4 _ _ own1 (Hus.out.below hbk1) (fun _ => rfl) wc.heap.size wc hbk1 (Nat.le_refl _) ?_; intro wk2 own2 hbk2)
      go_meet
      case rel => exact ⟨_, _, rfl, own2.rd, HA.out.below hbk2, HB.out.below hbk2, HE.out.trans (hbk2.mono HE.out.size)⟩
  clear HE HA HB Hus
  obtain ⟨aus1, cus1, rfl, Hus, HA, HB, HE⟩ := hcut
  by_cases hexs : 16 ≤ s.size ∧ hexTo s 16
  rotate_left
  · have HN : Hid (¬ (16 ≤ s.size ∧ hexTo s 16)) := hexs
    clear hexs
    go_wp2_with fail
    refine (prefixPos_no s _ hs0 HN.out).mono ?_
    rintro e wz ⟨rfl, rfl⟩
    go_wp2
    go_ret
    exact ⟨rfl, HE.out⟩
  obtain ⟨h16s, hxs⟩ := hexs
  have HXs : Hid (hexTo s 16) := hxs
  clear hxs
  go_wp2_with fail
  refine (prefixPos_yes s _ hs0 h16s HXs.out).mono ?_
  rintro e wp ⟨rfl, hwp⟩
  subst hwp
  go_wp2_with fail
  refine (ringOK_any ap1 aq1 n m N cp1 cq1 pos node _ (by omega) (by omega) eN HA.out HB.out).mono ?_
  rintro e wr2 ⟨r, rfl, hr, hbr⟩
  replace HA : Hid (Rd wr2 ap1 n (fun i => .int .u64 (pos i))) := HA.out.below hbr
  replace HB : Hid (Rd wr2 aq1 m (fun i => .int .i64 (node i))) := HB.out.below hbr
  replace Hus : Hid (Rd wr2 aus1 nus (fun i => .bool (us i))) := Hus.out.below hbr
  replace HE : Hid (Below w.heap.size w wr2) := HE.out.trans (hbr.mono HE.out.size)
  clear hbr
  cases r
  · clear hr
    go_wp2
    go_ret
    exact ⟨rfl, HE.out⟩
  have hfit := hr rfl
  clear hr
  obtain rfl : n = m := hfit.len
  obtain ⟨nd, hnd, hgood⟩ := hfit.good HPB.out
  have HG : Hid (Good n N pos nd) := hgood
  replace HB : Hid (Rd wr2 aq1 n (fun i => .int .i64 (nd i : Int))) := HB.out.congr (fun i hi => by rw [hnd i hi])
  clear hfit hnd hgood
  go_wp2_with fail
  refine (newRing_at ap1 aq1 n cp1 cq1 N R R pos nd _ (by omega) rfl HA.out HB.out).mono ?_
  rintro e w3 ⟨rb, pb, rfl, hr3, l1, l2, hb3⟩
  replace HA : Hid (Rd w3 ap1 n (fun i => .int .u64 (pos i))) := HA.out.below hb3
  replace HB : Hid (Rd w3 aq1 n (fun i => .int .i64 (nd i : Int))) := HB.out.below hb3
  replace Hus : Hid (Rd w3 aus1 nus (fun i => .bool (us i))) := Hus.out.below hb3
  replace HE : Hid (Below w.heap.size w w3) := HE.out.trans (hb3.mono HE.out.size)
  have HR : Hid (RingAt w3 rb pb n N R pos (fun i => (nd i : Int))) := hr3
  clear hr3 hb3
  go_wp2_with fail
  refine (order_good s rb pb n N R pos nd _ hs0 h16s HXs.out HR.out l1 l2 (by omega) (by omega) HG.out).mono ?_
  rintro e w4 ⟨ao, co, rfl, ho, hb4⟩
  replace HA : Hid (Rd w4 ap1 n (fun i => .int .u64 (pos i))) := HA.out.below hb4
  replace HB : Hid (Rd w4 aq1 n (fun i => .int .i64 (nd i : Int))) := HB.out.below hb4
  replace Hus : Hid (Rd w4 aus1 nus (fun i => .bool (us i))) := Hus.out.below hb4
  replace HR : Hid (RingAt w4 rb pb n N R pos (fun i => (nd i : Int))) := HR.out.below hb4 l1 l2
  replace HE : Hid (Below w.heap.size w w4) := HE.out.trans (hb4.mono HE.out.size)
  have HO : Hid (Rd w4 ao N (fun i => .int .i64 (((ordP n pos nd (pvTo s 16)).getD i 0 : Nat) : Int))) := ho
  replace l1 : rb < w4.heap.size := by have := hb4.size; omega
  replace l2 : pb < w4.heap.size := by have := hb4.size; omega
  clear ho hb4
  go_wp2_with fail
  refine (zzHolders_any s rb pb n N R aus1 nus cus1 us pos nd _ hs0 h16s HXs.out HR.out l1 l2 (by omega) (by omega) HG.out eR1 (by omega) gnus Hus.out).mono ?_
  rintro e w5 ⟨ag, cg, rfl, hgt, hb5⟩
  clear HR
  replace HA : Hid (Rd w5 ap1 n (fun i => .int .u64 (pos i))) := HA.out.below hb5
  replace HB : Hid (Rd w5 aq1 n (fun i => .int .i64 (nd i : Int))) := HB.out.below hb5
  replace Hus : Hid (Rd w5 aus1 nus (fun i => .bool (us i))) := Hus.out.below hb5
  replace HO : Hid (Rd w5 ao N (fun i => .int .i64 (((ordP n pos nd (pvTo s 16)).getD i 0 : Nat) : Int))) := HO.out.below hb5
  replace HE : Hid (Below w.heap.size w w5) := HE.out.trans (hb5.mono HE.out.size)
  have HT : Hid (Rd w5 ag (hold (ordP n pos nd (pvTo s 16)) us R).length (fun i => .int .i64 (((hold (ordP n pos nd (pvTo s 16)) us R).getD i 0 : Nat) : Int))) := hgt
  clear hgt hb5 l1 l2
  have hps := pv_range HXs.out
  have HF : Hid (OrderFits n N pos nd (pvTo s 16) (fun i => (ordP n pos nd (pvTo s 16)).getD i 0)) := ordP_fits HG.out hps.1 hps.2
  clear hps
  go_wp2_with fail
  refine (orderOK_yes ao ap1 aq1 n N co cp1 cq1 pos nd _ (pvTo s 16) _ (by omega) eN HO.out HA.out HB.out HG.out.range HG.out.pos HF.out).mono ?_
  rintro e w6 ⟨rfl, hb6⟩
  clear HA HB
  replace Hus : Hid (Rd w6 aus1 nus (fun i => .bool (us i))) := Hus.out.below hb6
  replace HO : Hid (Rd w6 ao N (fun i => .int .i64 (((ordP n pos nd (pvTo s 16)).getD i 0 : Nat) : Int))) := HO.out.below hb6
  replace HT : Hid (Rd w6 ag (hold (ordP n pos nd (pvTo s 16)) us R).length (fun i => .int .i64 (((hold (ordP n pos nd (pvTo s 16)) us R).getD i 0 : Nat) : Int))) := HT.out.below hb6
  replace HE : Hid (Below w.heap.size w w6) := HE.out.trans (hb6.mono HE.out.size)
  clear hb6 HF
  have HLEN : Hid ((ordP n pos nd (pvTo s 16)).length = N) := ordP_len HG.out _
  have HLT : Hid (∀ x, x ∈ (ordP n pos nd (pvTo s 16)) → x < nus) := fun x hx => by have := ordP_lt HG.out _ x hx; omega
  have hhl : (hold (ordP n pos nd (pvTo s 16)) us R).length ≤ R := by unfold hold; rw [List.length_take]; omega
  generalize (ordP n pos nd (pvTo s 16)) = D at *
  have hDN : D.length = N := HLEN.out
  subst hDN
  go_wp2_with fail
  refine (firstUsable_any ao aus1 co nus cus1 R D us _ eN (by omega) eR1 (by omega) HLT.out HO.out Hus.out).mono ?_
  rintro e w7 ⟨ah, ch, rfl, hrd, hb7⟩
  replace HT : Hid (Rd w7 ag (hold D us R).length (fun i => .int .i64 (((hold D us R).getD i 0 : Nat) : Int))) := HT.out.below hb7
  replace HE : Hid (Below w.heap.size w w7) := HE.out.trans (hb7.mono HE.out.size)
  have HC : Hid (Rd w7 ah (hold D us R).length (fun i => .int .i64 (((hold D us R).getD i 0 : Nat) : Int))) := hrd
  clear hb7 hrd HO Hus HLT
  go_wp2_with fail
  refine (eqInts_yes ag ah (hold D us R).length cg ch (fun i => (((hold D us R).getD i 0 : Nat) : Int)) _ (by omega) HT.out HC.out).mono ?_
  rintro e w8 ⟨rfl, hb8⟩
  replace HE : Hid (Below w.heap.size w w8) := HE.out.trans (hb8.mono HE.out.size)
  clear hb8
  go_wp2
  go_ret
  exact ⟨rfl, HE.out⟩

end Go.Proofs.Qxb6608942aDoor
