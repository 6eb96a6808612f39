import Derived.Test.Qxb6608942aDoorPlainC
import Derived.Test.Qxb6608942aDoorLawA
import Derived.Deep.DeepCutAuto
namespace Go.Proofs.Qxb6608942aDoor
open Go.RowKit

theorem lawC_bytes (s : ByteArray) (ap : Option Addr) (n cp : Nat) (aq : Option Addr) (m cq : Nat) (N : Int) (R : Int) (aus : Option Addr) (nus cus : Nat) (w : World) (hs : s.size ≤ maxLen) (hn : n ≤ maxLen) (hm : m ≤ maxLen) (hnus : nus ≤ maxLen) :
    Calls Tryd.prog 23 #[.string s, .slice ap n cp, .slice aq m cq, .int .i64 N, .int .i64 R, .slice aus nus cus] w fun e w' => ∃ r : Bool, e = .returned (.bool r) ∧ w = w' := by
  unfold maxLen at hs hn hm hnus
  go_enter Tryd.func23, Tryd.ntmps23
  go_wp2
  all_goals go_ret
  all_goals exact ⟨_, rfl, rfl⟩

set_option maxRecDepth 100000 in
set_option maxHeartbeats 1600000 in
theorem lawC (s : ByteArray) (ap : Option Addr) (n cp : Nat) (aq : Option Addr) (m cq : Nat) (N : Int) (R : Int) (aus : Option Addr) (nus cus : Nat) (pos node : Nat → Int) (us : Nat → Bool) (w : World) (hs : s.size ≤ maxLen) (hn : n ≤ maxLen) (hm : m ≤ maxLen) (hnus : nus ≤ maxLen) (hdap : Rd w ap n (fun i => .int .u64 (pos i))) (hdaq : Rd w aq m (fun i => .int .i64 (node i))) (hdaus : Rd w aus nus (fun i => .bool (us i))) (hpb : ∀ j, j < n → 0 ≤ pos j ∧ pos j < 18446744073709551616) :
    Calls Tryd.prog 7 #[.string s, .slice ap n cp, .slice aq m cq, .int .i64 N, .int .i64 R, .slice aus nus cus] w fun e w' => e = .returned (.bool true) ∧ Below w.heap.size w w' := by
  have HA : Hid (Rd w ap n (fun i => .int .u64 (pos i))) := hdap
  have HB : Hid (Rd w aq m (fun i => .int .i64 (node i))) := hdaq
  have Hus : Hid (Rd w aus nus (fun i => .bool (us i))) := hdaus
  have HPB : Hid (∀ j, j < n → 0 ≤ pos j ∧ pos j < 18446744073709551616) := hpb
  have HE : Hid (Below w.heap.size w w) := Below.refl _ _
  have hs0 := hs
  have hn0 := hn
  have hm0 := hm
  have hnus0 := hnus
  have q22 := neq22
  have q23 := neq23
  have q35 := neq35
  clear hpb hdap hdaq hdaus
  unfold maxLen at hs hn hm hnus
  by_cases x0 : 65536 < s.size
  · go_enter Tryd.func7, Tryd.ntmps7
    go_wp2_with (go_at_call 23; refine (lawC_bytes s ap n cp aq m cq N R aus nus cus _ hs0 hn0 hm0 hnus0).mono ?_; rintro e w' ⟨r, rfl, rfl⟩; cases r)
    all_goals (go_ret; exact ⟨rfl, Below.refl _ _⟩)
  have d0 : decide ((65536 : Int) < (s.size : Int)) = false := by simp; omega
  by_cases x1 : 32768 < n
  · go_enter Tryd.func7, Tryd.ntmps7
    go_wp2_with (go_at_call 23; refine (lawC_bytes s ap n cp aq m cq N R aus nus cus _ hs0 hn0 hm0 hnus0).mono ?_; rintro e w' ⟨r, rfl, rfl⟩; cases r)
    all_goals (go_ret; exact ⟨rfl, Below.refl _ _⟩)
  have d1 : decide ((32768 : Int) < (n : Int)) = false := by simp; omega
  by_cases x2 : 32768 < m
  · go_enter Tryd.func7, Tryd.ntmps7
    go_wp2_with (go_at_call 23; refine (lawC_bytes s ap n cp aq m cq N R aus nus cus _ hs0 hn0 hm0 hnus0).mono ?_; rintro e w' ⟨r, rfl, rfl⟩; cases r)
    all_goals (go_ret; exact ⟨rfl, Below.refl _ _⟩)
  have d2 : decide ((32768 : Int) < (m : Int)) = false := by simp; omega
  by_cases x3 : 65536 < nus
  · go_enter Tryd.func7, Tryd.ntmps7
    go_wp2_with (go_at_call 23; refine (lawC_bytes s ap n cp aq m cq N R aus nus cus _ hs0 hn0 hm0 hnus0).mono ?_; rintro e w' ⟨r, rfl, rfl⟩; cases r)
    all_goals (go_ret; exact ⟨rfl, Below.refl _ _⟩)
  have d3 : decide ((65536 : Int) < (nus : Int)) = false := by simp; omega
  by_cases x4 : N < 0
  · go_enter Tryd.func7, Tryd.ntmps7
    go_wp2_with (go_at_call 23; refine (lawC_bytes s ap n cp aq m cq N R aus nus cus _ hs0 hn0 hm0 hnus0).mono ?_; rintro e w' ⟨r, rfl, rfl⟩; cases r)
    all_goals (go_ret; exact ⟨rfl, Below.refl _ _⟩)
  have d4 : decide (N < 0) = false := by simp; omega
  obtain ⟨N, rfl⟩ := Int.eq_ofNat_of_zero_le (show 0 ≤ N by omega)
  by_cases x5 : 65536 < (N : Int)
  · go_enter Tryd.func7, Tryd.ntmps7
    go_wp2_with (go_at_call 23; refine (lawC_bytes s ap n cp aq m cq N R aus nus cus _ hs0 hn0 hm0 hnus0).mono ?_; rintro e w' ⟨r, rfl, rfl⟩; cases r)
    all_goals (go_ret; exact ⟨rfl, Below.refl _ _⟩)
  have d5 : decide ((65536 : Int) < (N : Int)) = false := by simp; omega
  by_cases x6 : R < 1
  · go_enter Tryd.func7, Tryd.ntmps7
    go_wp2_with (go_at_call 23; refine (lawC_bytes s ap n cp aq m cq N R aus nus cus _ hs0 hn0 hm0 hnus0).mono ?_; rintro e w' ⟨r, rfl, rfl⟩; cases r)
    all_goals (go_ret; exact ⟨rfl, Below.refl _ _⟩)
  have d6 : decide (R < 1) = false := by simp; omega
  obtain ⟨R, rfl⟩ := Int.eq_ofNat_of_zero_le (show 0 ≤ R by omega)
  by_cases x7 : 65536 < (R : Int)
  · go_enter Tryd.func7, Tryd.ntmps7
    go_wp2_with (go_at_call 23; refine (lawC_bytes s ap n cp aq m cq N R aus nus cus _ hs0 hn0 hm0 hnus0).mono ?_; rintro e w' ⟨r, rfl, rfl⟩; cases r)
    all_goals (go_ret; exact ⟨rfl, Below.refl _ _⟩)
  have d7 : decide ((65536 : Int) < (R : Int)) = false := by simp; omega
  by_cases x8 : nus < N
  · go_enter Tryd.func7, Tryd.ntmps7
    go_wp2_with (go_at_call 23; refine (lawC_bytes s ap n cp aq m cq N R aus nus cus _ hs0 hn0 hm0 hnus0).mono ?_; rintro e w' ⟨r, rfl, rfl⟩; cases r)
    all_goals (go_ret; exact ⟨rfl, Below.refl _ _⟩)
  have d8 : decide (nus < N) = false := by simp; omega
  have eN : N ≤ 65536 := by omega
  have es : s.size ≤ 65536 := by omega
  have eR1 : 1 ≤ R := by omega
  have eR : R ≤ 65536 := by omega
  have en : n ≤ 32768 := by omega
  have em : m ≤ 32768 := by omega
  have enus : nus ≤ 65536 := by omega
  have gnus : N ≤ nus := by omega
  clear x0 x1 x2 x3 x4 x5 x6 x7 x8
  go_enter Tryd.func7, Tryd.ntmps7
  by_cases hexs : 16 ≤ s.size ∧ hexTo s 16
  rotate_left
  · have HN : Hid (¬ (16 ≤ s.size ∧ hexTo s 16)) := hexs
    clear hexs
    go_wp2_with (go_at_call 23; refine (lawC_bytes s ap n cp aq m cq N R aus nus cus _ hs0 hn0 hm0 hnus0).mono ?_; rintro e w' ⟨r, rfl, rfl⟩; cases r)
    · go_ret; exact ⟨rfl, Below.refl _ _⟩
    refine (prefixPos_no s _ hs0 HN.out).mono ?_
    rintro e wz ⟨rfl, rfl⟩
    go_wp2
    go_ret
    exact ⟨rfl, HE.out⟩
  obtain ⟨h16s, hxs⟩ := hexs
  have HXs : Hid (hexTo s 16) := hxs
  clear hxs
  go_wp2_with (go_at_call 23; refine (lawC_bytes s ap n cp aq m cq N R aus nus cus _ hs0 hn0 hm0 hnus0).mono ?_; rintro e w' ⟨r, rfl, rfl⟩; cases r)
  · go_ret; exact ⟨rfl, Below.refl _ _⟩
  refine (prefixPos_yes s _ hs0 h16s HXs.out).mono ?_
  rintro e wp ⟨rfl, hwp⟩
  obtain rfl : w = wp := hwp.symm
  go_wp2_with fail
  refine (ringOK_any ap aq n m N cp cq pos node _ (by omega) (by omega) eN HA.out HB.out).mono ?_
  rintro e wr2 ⟨r, rfl, hr, hbr⟩
  replace HA : Hid (Rd wr2 ap n (fun i => .int .u64 (pos i))) := HA.out.below hbr
  replace HB : Hid (Rd wr2 aq m (fun i => .int .i64 (node i))) := HB.out.below hbr
  replace Hus : Hid (Rd wr2 aus nus (fun i => .bool (us i))) := Hus.out.below hbr
  replace HE : Hid (Below w.heap.size w wr2) := HE.out.trans (hbr.mono HE.out.size)
  clear hbr
  cases r
  · clear hr
    go_wp2
    go_ret
    exact ⟨rfl, HE.out⟩
  have hfit := hr rfl
  clear hr
  obtain rfl : n = m := hfit.len
  obtain ⟨nd, hnd, hgood⟩ := hfit.good HPB.out
  have HG : Hid (Good n N pos nd) := hgood
  replace HB : Hid (Rd wr2 aq n (fun i => .int .i64 (nd i : Int))) := HB.out.congr (fun i hi => by rw [hnd i hi])
  clear hfit hnd hgood
  go_upto_if 81 with fail
  go_cut [1, 15] (fun s1 s2 wx => ∃ a' c', s1 = .slice a' n c' ∧ Hid (Rd wx a' n (fun i => .int .u64 (pos i))) ∧ Hid (Rd wx aq n (fun i => .int .i64 (nd i : Int))) ∧ Hid (Rd wx aus nus (fun i => .bool (us i))) ∧ Hid (Below w.heap.size w wx))
  case first =>
    cases ap with
    | none =>
      go_wp2
      go_meet
      case rel => exact ⟨_, _, rfl, HA, HB, Hus, HE⟩
    | some ad =>
      go_upto_region 16 with (at_make; refine wpList_mk _ rfl _ _ 22 rfl 25 (.int .u64 0) 8 Tryd.underlying22 Tryd.info25 rfl _ _ _ _ n rfl rfl rfl rfl (by omega) (by omega) ?_; intro wk1 own1 hbk1 hsk1)
      go_wp2_with (refine wpList_cp rfl (.tmp 85) (.tmp 86) 22 22 rfl 25 Tryd.underlying22 Tryd.size25 _ n _ wr2.heap.size rfl rfl 25 _ _ own1 (HA.out.below hbk1) (fun _ => rfl) wr2.heap.size wr2 hbk1 (Nat.le_refl _) ?_; intro wk2 own2 hbk2)
      go_meet
      case rel => exact ⟨_, _, rfl, own2.rd, HB.out.below hbk2, Hus.out.below hbk2, HE.out.trans (hbk2.mono HE.out.size)⟩
  clear HE HA HB Hus
  obtain ⟨ap1, cp1, rfl, HA, HB, Hus, HE⟩ := hcut
  go_upto_if 90 with fail
  go_cut [2, 16] (fun s1 s2 wx => ∃ a' c', s1 = .slice a' n c' ∧ Hid (Rd wx a' n (fun i => .int .i64 (nd i : Int))) ∧ Hid (Rd wx ap1 n (fun i => .int .u64 (pos i))) ∧ Hid (Rd wx aus nus (fun i => .bool (us i))) ∧ Hid (Below w.heap.size w wx))
  case first =>
    cases aq with
    | none =>
      go_wp2
      go_meet
      case rel => exact ⟨_, _, rfl, HB, HA, Hus, HE⟩
    | some ad =>
      go_upto_region 20 with (at_make; refine wpList_mk _ rfl _ _ 23 rfl 3 (.int .i64 0) 8 Tryd.underlying23 Tryd.info3 rfl _ _ _ _ n rfl rfl rfl rfl (by omega) (by omega) ?_; intro wk1 own1 hbk1 hsk1)
      go_wp2_with (refine wpList_cp rfl (.tmp 94) (.tmp 95) 23 23 rfl 3 Tryd.underlying23 Tryd.size3 _ n _ wc.heap.size rfl rfl 3 _ _ own1 (HB.out.below hbk1) (fun _ => rfl) wc.heap.size wc hbk1 (Nat.le_refl _) ?_; intro wk2 own2 hbk2)
      go_meet
      case rel => exact ⟨_, _, rfl, own2.rd, HA.out.below hbk2, Hus.out.below hbk2, HE.out.trans (hbk2.mono HE.out.size)⟩
  clear HE HA HB Hus
  obtain ⟨aq1, cq1, rfl, HB, HA, Hus, HE⟩ := hcut
  go_upto_if 99 with fail
  go_cut [5, 17] (fun s1 s2 wx => ∃ a' c', s1 = .slice a' nus c' ∧ Hid (Rd wx a' nus (fun i => .bool (us i))) ∧ Hid (Rd wx ap1 n (fun i => .int .u64 (pos i))) ∧ Hid (Rd wx aq1 n (fun i => .int .i64 (nd i : Int))) ∧ Hid (Below w.heap.size w wx))
  case first =>
    cases aus with
    | none =>
      go_wp2
      go_meet
      case rel => exact ⟨_, _, rfl, Hus, HA, HB, HE⟩
    | some ad =>
      go_upto_region 24 with (at_make; refine wpList_mk _ rfl _ _ 35 rfl 4 (.bool false) 1 Tryd.underlying35 Tryd.info4 rfl _ _ _ _ nus rfl rfl rfl rfl (by omega) (by omega) ?_; intro wk1 own1 hbk1 hsk1)
      go_wp2_with (refine wpList_cp rfl (.tmp 103) (.tmp 104) 35 35 rfl 4 Tryd.underlying35 Tryd.size4 _ nus _ wc.heap.size rfl rfl 4 _ _ own1 (Hus.out.below hbk1) (fun _ => rfl) wc.heap.size wc hbk1 (Nat.le_refl _) ?_; intro wk2 own2 hbk2)
      go_meet
      case rel => exact ⟨_, _, rfl, own2.rd, HA.out.below hbk2, HB.out.below hbk2, HE.out.trans (hbk2.mono HE.out.size)⟩
  clear HE HA HB Hus
  obtain ⟨aus1, cus1, rfl, Hus, HA, HB, HE⟩ := hcut
  go_wp2_with fail
  refine (newRing_at ap1 aq1 n cp1 cq1 N R R pos nd _ (by omega) rfl HA.out HB.out).mono ?_
  rintro e w3 ⟨rb, pb, rfl, hr3, l1, l2, hb3⟩
  replace Hus : Hid (Rd w3 aus1 nus (fun i => .bool (us i))) := Hus.out.below hb3
  replace HE : Hid (Below w.heap.size w w3) := HE.out.trans (hb3.mono HE.out.size)
  have HR : Hid (RingAt w3 rb pb n N R pos (fun i => (nd i : Int))) := hr3
  clear hr3 hb3 HA HB
  go_wp2_with fail
  refine (replicas_any rb pb n N R pos (fun i => (nd i : Int)) _ HR.out).mono ?_
  rintro e w4 ⟨rfl, rfl⟩
  go_wp2_with fail
  refine (zzHolders_any s rb pb n N R aus1 nus cus1 us pos nd _ hs0 h16s HXs.out HR.out l1 l2 (by omega) (by omega) HG.out eR1 (by omega) gnus Hus.out).mono ?_
  rintro e w5 ⟨ah, ch, rfl, _, hb5⟩
  have hln := hold_len HG.out (pvTo s 16) us R
  generalize (hold (ordP n pos nd (pvTo s 16)) us R).length = ln at *
  have HLN : Hid (ln = if R < cntB us N then R else cntB us N) := hln
  replace Hus : Hid (Rd w5 aus1 nus (fun i => .bool (us i))) := Hus.out.below hb5
  replace HE : Hid (Below w.heap.size w w5) := HE.out.trans (hb5.mono HE.out.size)
  clear hln hb5 HR l1 l2
  go_wp2
  go_loop [21, 22] (fun c i => ∃ k : Nat, k ≤ N ∧ i = .int .i64 k ∧ c = .int .i64 (cntB us k : Nat)) (fun _ i => N - (intOf i).toNat)
  case atStart => exact ⟨0, Nat.zero_le _, rfl, rfl⟩
  obtain ⟨k, hk, rfl, rfl⟩ := hrel
  have hcl := cntB_le us k
  by_cases hlt : k < N
  · obtain ⟨bu, ou, rfl, hcu⟩ := Hus.out (by omega)
    have c1 : w5.cell? ⟨bu, ou + k, none⟩ = some (.bool (us k)) := hcu k (by omega)
    have hlt1 : (k : Int) < (N : Int) := by omega
    have hlt2 : (k : Int) < (nus : Int) := by omega
    clear hcu
    have HS : Hid (cntB us (k + 1) = cntB us k + (if us k = true then 1 else 0)) := rfl
    cases huk : us k <;> rw [huk] at c1
    · have HS2 : Hid (cntB us (k + 1) = cntB us k) := by show _ = _; have := HS.out; rw [huk] at this; simpa using this
      clear huk HS
      go_wp2
      go_round
      case rel => exact ⟨k + 1, by omega, by go_num, by rw [HS2.out]⟩
      case measure => simp [intOf]; omega
    · have HS2 : Hid (cntB us (k + 1) = cntB us k + 1) := by show _ = _; have := HS.out; rw [huk] at this; simpa using this
      clear huk HS
      go_wp2
      go_round
      case rel => exact ⟨k + 1, by omega, by go_num, by rw [HS2.out]; go_num⟩
      case measure => simp [intOf]; omega
  obtain rfl : k = N := by omega
  by_cases hRc : R < cntB us k
  · obtain rfl : ln = R := by have := HLN.out; rwa [if_pos hRc] at this
    clear HLN
    go_wp2
    go_ret
    exact ⟨rfl, HE.out⟩
  · obtain rfl : ln = cntB us k := by have := HLN.out; rwa [if_neg hRc] at this
    clear HLN
    go_wp2
    go_ret
    exact ⟨rfl, HE.out⟩

end Go.Proofs.Qxb6608942aDoor
