import Derived.Test.Qxb6608942aDoorTail
import Derived.Deep.DeepCutAuto
namespace Go.Proofs.Qxb6608942aDoor
open Go.RowKit

theorem neq22 (w : World) (a : Option Addr) (n c n' c' : Nat) : (binOp .neq 22 (.slice a n c) (.slice none n' c')).run Tryd.prog w = .ok (.bool (!a.isNone)) w := run_neq_slice_nil_any w _ _ a n c n' c' Tryd.underlying22
theorem neq23 (w : World) (a : Option Addr) (n c n' c' : Nat) : (binOp .neq 23 (.slice a n c) (.slice none n' c')).run Tryd.prog w = .ok (.bool (!a.isNone)) w := run_neq_slice_nil_any w _ _ a n c n' c' Tryd.underlying23
theorem neq35 (w : World) (a : Option Addr) (n c n' c' : Nat) : (binOp .neq 35 (.slice a n c) (.slice none n' c')).run Tryd.prog w = .ok (.bool (!a.isNone)) w := run_neq_slice_nil_any w _ _ a n c n' c' Tryd.underlying35

set_option maxRecDepth 100000 in
set_option maxHeartbeats 800000 in
theorem lawA (s : ByteArray) (a b : Option Addr) (n m ca cb : Nat) (N : Int) (pos node : Nat → Int) (w : World) (hs : s.size ≤ maxLen) (hn : n ≤ maxLen) (hm : m ≤ maxLen)
    (ha : Rd w a n (fun i => .int .u64 (pos i))) (hb : Rd w b m (fun i => .int .i64 (node i))) (hpb : ∀ j, j < n → 0 ≤ pos j ∧ pos j < 18446744073709551616) :
    Calls Tryd.prog 3 #[.string s, .slice a n ca, .slice b m cb, .int .i64 N] w fun e w' => e = .returned (.bool true) ∧ Below w.heap.size w w' := by
  have HA : Hid (Rd w a n (fun i => .int .u64 (pos i))) := ha
  have HB : Hid (Rd w b m (fun i => .int .i64 (node i))) := hb
  have HPB : Hid (∀ j, j < n → 0 ≤ pos j ∧ pos j < 18446744073709551616) := hpb
  have hs0 := hs
  have hn0 := hn
  have hm0 := hm
  have q22 := neq22
  have q23 := neq23
  clear ha hb hpb
  unfold maxLen at hs hn hm
  by_cases c1 : 65536 < s.size
  · go_enter Tryd.func3, Tryd.ntmps3
    go_wp2_with (go_at_call 10; refine (bytes3_any s a b n m ca cb N _ hs0 hn0 hm0).mono ?_; rintro e w' ⟨r, rfl, rfl⟩; cases r)
    all_goals (go_ret; exact ⟨rfl, Below.refl _ _⟩)
  by_cases c2 : 32768 < n
  · have d1 : decide ((65536 : Int) < (s.size : Int)) = false := by simp; omega
    go_enter Tryd.func3, Tryd.ntmps3
    go_wp2_with (go_at_call 10; refine (bytes3_any s a b n m ca cb N _ hs0 hn0 hm0).mono ?_; rintro e w' ⟨r, rfl, rfl⟩; cases r)
    all_goals (go_ret; exact ⟨rfl, Below.refl _ _⟩)
  by_cases c3 : 32768 < m
  · have d1 : decide ((65536 : Int) < (s.size : Int)) = false := by simp; omega
    have d2 : decide ((32768 : Int) < (n : Int)) = false := by simp; omega
    go_enter Tryd.func3, Tryd.ntmps3
    go_wp2_with (go_at_call 10; refine (bytes3_any s a b n m ca cb N _ hs0 hn0 hm0).mono ?_; rintro e w' ⟨r, rfl, rfl⟩; cases r)
    all_goals (go_ret; exact ⟨rfl, Below.refl _ _⟩)
  have d1 : decide ((65536 : Int) < (s.size : Int)) = false := by simp; omega
  have d2 : decide ((32768 : Int) < (n : Int)) = false := by simp; omega
  have d3 : decide ((32768 : Int) < (m : Int)) = false := by simp; omega
  by_cases c4 : N < 0
  · go_enter Tryd.func3, Tryd.ntmps3
    go_wp2_with (go_at_call 10; refine (bytes3_any s a b n m ca cb N _ hs0 hn0 hm0).mono ?_; rintro e w' ⟨r, rfl, rfl⟩; cases r)
    all_goals (go_ret; exact ⟨rfl, Below.refl _ _⟩)
  have d4 : decide (N < 0) = false := by simpa using c4
  by_cases c5 : 65536 < N
  · go_enter Tryd.func3, Tryd.ntmps3
    go_wp2_with (go_at_call 10; refine (bytes3_any s a b n m ca cb N _ hs0 hn0 hm0).mono ?_; rintro e w' ⟨r, rfl, rfl⟩; cases r)
    all_goals (go_ret; exact ⟨rfl, Below.refl _ _⟩)
  obtain ⟨N, rfl⟩ := Int.eq_ofNat_of_zero_le (Int.not_lt.1 c4)
  have d5 : decide ((65536 : Int) < (N : Int)) = false := by simpa using c5
  have e1 : s.size ≤ 65536 := by omega
  have e2 : n ≤ 32768 := by omega
  have e3 : m ≤ 32768 := by omega
  have e5 : N ≤ 65536 := by omega
  clear c1 c2 c3 c4 c5
  go_enter Tryd.func3, Tryd.ntmps3
  go_upto_if 41 with (go_at_call 10; refine (bytes3_any s a b n m ca cb N _ hs0 hn0 hm0).mono ?_; rintro e w' ⟨r, rfl, rfl⟩; cases r)
  · go_ret; exact ⟨rfl, Below.refl _ _⟩
  go_cut [1, 9] (fun s1 s9 wc => ∃ a' c', s1 = .slice a' n c' ∧ Hid (Rd wc a' n (fun i => .int .u64 (pos i))) ∧ Hid (Below w.heap.size w wc))
  case first =>
    cases a with
    | none =>
      go_wp2
      go_meet
      case rel => exact ⟨_, _, rfl, HA, Below.refl _ _⟩
    | some ad =>
      go_upto_region 9 with (at_make; refine wpList_mk _ rfl _ _ 22 rfl 25 (.int .u64 0) 8 Tryd.underlying22 Tryd.info25 rfl _ _ _ _ n rfl rfl rfl rfl (by omega) (by omega) ?_; intro w1 own1 hb1 hs1)
      go_wp2_with (refine wpList_cp rfl (.tmp 45) (.tmp 46) 22 22 rfl 25 Tryd.underlying22 Tryd.size25 _ n _ w.heap.size rfl rfl 25 _ _ own1 (HA.out.below hb1) (fun _ => rfl) w.heap.size w hb1 (Nat.le_refl _) ?_; intro w2 own2 hb2)
      go_meet
      case rel => exact ⟨_, _, rfl, own2.rd, hb2⟩
  case rest =>
    obtain ⟨a1, c1, rfl, HA1, HW1⟩ := hcut
    clear HA a ca
    go_upto_if 50 with fail
    go_cut [2, 10] (fun s2 s10 wx => ∃ a' c', s2 = .slice a' m c' ∧ Hid (Rd wx a' m (fun i => .int .i64 (node i))) ∧ Hid (Rd wx a1 n (fun i => .int .u64 (pos i))) ∧ Hid (Below w.heap.size w wx))
    case first =>
      have HB1 : Hid (Rd wc b m (fun i => .int .i64 (node i))) := HB.out.below HW1.out
      cases b with
      | none =>
        go_wp2
        go_meet
        case rel => exact ⟨_, _, rfl, HB1, HA1, HW1⟩
      | some ad =>
        go_upto_region 13 with (at_make; refine wpList_mk _ rfl _ _ 23 rfl 3 (.int .i64 0) 8 Tryd.underlying23 Tryd.info3 rfl _ _ _ _ m rfl rfl rfl rfl (by omega) (by omega) ?_; intro w1 own1 hb1 hs1)
        go_wp2_with (refine wpList_cp rfl (.tmp 54) (.tmp 55) 23 23 rfl 3 Tryd.underlying23 Tryd.size3 _ m _ wc.heap.size rfl rfl 3 _ _ own1 (HB1.out.below hb1) (fun _ => rfl) wc.heap.size wc hb1 (Nat.le_refl _) ?_; intro w2 own2 hb2)
        go_meet
        case rel => exact ⟨_, _, rfl, own2.rd, HA1.out.below hb2, HW1.out.trans (hb2.mono HW1.out.size)⟩
    case rest =>
      clear HA1 HW1 HB
      obtain ⟨b1, c2, rfl, HB1, HA1, HW1⟩ := hcut
      by_cases hex : 16 ≤ s.size ∧ hexTo s 16
      · obtain ⟨h16, hx⟩ := hex
        have HX : Hid (hexTo s 16) := hx
        clear hx
        go_wp2_with fail
        refine (prefixPos_yes s _ hs0 h16 HX.out).mono ?_
        rintro e w1 ⟨rfl, rfl⟩
        go_wp2_with fail
        refine (ringOK_any a1 b1 n m N c1 c2 pos node _ (by omega) (by omega) e5 HA1.out HB1.out).mono ?_
        rintro e w2 ⟨r, rfl, hr, hb2⟩
        cases r with
        | false =>
          have HE : Hid (Below w.heap.size w w2) := HW1.out.trans (hb2.mono HW1.out.size)
          clear hr
          go_wp2
          go_ret
          exact ⟨rfl, HE.out⟩
        | true =>
          have hfit := hr rfl
          clear hr
          obtain rfl : n = m := hfit.len
          obtain ⟨nd, hnd, hgood⟩ := hfit.good HPB.out
          have HG : Hid (Good n N pos nd) := hgood
          have HE : Hid (Below w.heap.size w w2) := HW1.out.trans (hb2.mono HW1.out.size)
          have HA2 : Hid (Rd w2 a1 n (fun i => .int .u64 (pos i))) := HA1.out.below hb2
          have HB2 : Hid (Rd w2 b1 n (fun i => .int .i64 (nd i : Int))) := (HB1.out.below hb2).congr (fun i hi => by rw [hnd i hi])
          clear hfit hb2 HA1 HB1 HW1 hnd hgood
          go_wp2_with fail
          refine (newRing_at a1 b1 n c1 c2 N 1 1 pos nd _ (by omega) rfl HA2.out HB2.out).mono ?_
          rintro e w3 ⟨rb, pb, rfl, hr3, l1, l2, hb3⟩
          have HE3 : Hid (Below w.heap.size w w3) := HE.out.trans (hb3.mono HE.out.size)
          have HA3 : Hid (Rd w3 a1 n (fun i => .int .u64 (pos i))) := HA2.out.below hb3
          have HB3 : Hid (Rd w3 b1 n (fun i => .int .i64 (nd i : Int))) := HB2.out.below hb3
          have HR3 : Hid (RingAt w3 rb pb n N 1 pos (fun i => (nd i : Int))) := hr3
          clear HE HA2 HB2 hr3 hb3
          go_wp2_with fail
          refine (order_good s rb pb n N 1 pos nd _ hs0 h16 HX.out HR3.out l1 l2 (by omega) (by omega) HG.out).mono ?_
          rintro e w4 ⟨ao, co, rfl, ho, hb4⟩
          have HE4 : Hid (Below w.heap.size w w4) := HE3.out.trans (hb4.mono HE3.out.size)
          have HA4 : Hid (Rd w4 a1 n (fun i => .int .u64 (pos i))) := HA3.out.below hb4
          have HB4 : Hid (Rd w4 b1 n (fun i => .int .i64 (nd i : Int))) := HB3.out.below hb4
          have HO4 : Hid (Rd w4 ao N (fun i => .int .i64 (((ordP n pos nd (pvTo s 16)).getD i 0 : Nat) : Int))) := ho
          have hpr := pv_range HX.out
          have HF : Hid (OrderFits n N pos nd (pvTo s 16) (fun i => (ordP n pos nd (pvTo s 16)).getD i 0)) := ordP_fits HG.out hpr.1 hpr.2
          clear HE3 HA3 HB3 HR3 hb4 ho hpr
          go_wp2_with fail
          refine (orderOK_yes ao a1 b1 n N co c1 c2 pos nd _ (pvTo s 16) _ (by omega) e5 HO4.out HA4.out HB4.out HG.out.range HG.out.pos HF.out).mono ?_
          rintro e w5 ⟨rfl, hb5⟩
          have HE5 : Hid (Below w.heap.size w w5) := HE4.out.trans (hb5.mono HE4.out.size)
          clear hb5
          go_wp2
          go_ret
          exact ⟨rfl, HE5.out⟩
      · have HN : Hid (¬ (16 ≤ s.size ∧ hexTo s 16)) := hex
        clear hex
        go_wp2_with fail
        refine (prefixPos_no s _ hs0 HN.out).mono ?_
        rintro e w1 ⟨rfl, rfl⟩
        go_wp2
        go_ret
        exact ⟨rfl, HW1.out⟩

end Go.Proofs.Qxb6608942aDoor
