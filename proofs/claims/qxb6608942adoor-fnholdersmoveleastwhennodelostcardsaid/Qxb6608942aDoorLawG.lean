import Derived.Test.Qxb6608942aDoorLeast
import Derived.Test.Qxb6608942aDoorLawA
import Derived.Deep.DeepCutAuto
namespace Go.Proofs.Qxb6608942aDoor
open Go.RowKit

theorem slice_inj {a b : Option Addr} {n m c d : Nat} (h : Value.slice a n c = .slice b m d) : a = b ∧ n = m ∧ c = d := by
  simpa using h

theorem lawG_bytes (s : ByteArray) (ap : Option Addr) (n cp : Nat) (aq : Option Addr) (m cq : Nat) (N : Int) (R : Int) (aus : Option Addr) (nus cus : Nat) (k : Int) (w : World) (hs : s.size ≤ maxLen) (hn : n ≤ maxLen) (hm : m ≤ maxLen) (hnus : nus ≤ maxLen) :
    Calls Tryd.prog 21 #[.string s, .slice ap n cp, .slice aq m cq, .int .i64 N, .int .i64 R, .slice aus nus cus, .int .i64 k] w fun e w' => ∃ r : Bool, e = .returned (.bool r) ∧ w = w' := by
  unfold maxLen at hs hn hm hnus
  go_enter Tryd.func21, Tryd.ntmps21
  go_wp2
  all_goals go_ret
  all_goals exact ⟨_, rfl, rfl⟩

set_option maxRecDepth 100000 in
set_option maxHeartbeats 6400000 in
theorem lawG (s : ByteArray) (ap : Option Addr) (n cp : Nat) (aq : Option Addr) (m cq : Nat) (N : Int) (R : Int) (aus : Option Addr) (nus cus : Nat) (k : Int) (pos node : Nat → Int) (us : Nat → Bool) (w : World) (hs : s.size ≤ maxLen) (hn : n ≤ maxLen) (hm : m ≤ maxLen) (hnus : nus ≤ maxLen) (hdap : Rd w ap n (fun i => .int .u64 (pos i))) (hdaq : Rd w aq m (fun i => .int .i64 (node i))) (hdaus : Rd w aus nus (fun i => .bool (us i))) (hpb : ∀ j, j < n → 0 ≤ pos j ∧ pos j < 18446744073709551616) :
    Calls Tryd.prog 6 #[.string s, .slice ap n cp, .slice aq m cq, .int .i64 N, .int .i64 R, .slice aus nus cus, .int .i64 k] w fun e w' => e = .returned (.bool true) ∧ Below w.heap.size w w' := by
  have HA : Hid (Rd w ap n (fun i => .int .u64 (pos i))) := hdap
  have HB : Hid (Rd w aq m (fun i => .int .i64 (node i))) := hdaq
  have Hus : Hid (Rd w aus nus (fun i => .bool (us i))) := hdaus
  have HPB : Hid (∀ j, j < n → 0 ≤ pos j ∧ pos j < 18446744073709551616) := hpb
  have HE : Hid (Below w.heap.size w w) := Below.refl _ _
  have hs0 := hs
  have hn0 := hn
  have hm0 := hm
  have hnus0 := hnus
  have q22 := neq22
  have q23 := neq23
  have q35 := neq35
  clear hpb hdap hdaq hdaus
  unfold maxLen at hs hn hm hnus
  by_cases x0 : 65536 < s.size
  · go_enter Tryd.func6, Tryd.ntmps6
    go_wp2_with (go_at_call 21; refine (lawG_bytes s ap n cp aq m cq N R aus nus cus k _ hs0 hn0 hm0 hnus0).mono ?_; rintro e w' ⟨r, rfl, rfl⟩; cases r)
    all_goals (go_ret; exact ⟨rfl, Below.refl _ _⟩)
  have d0 : decide ((65536 : Int) < (s.size : Int)) = false := by simp; omega
  by_cases x1 : 32768 < n
  · go_enter Tryd.func6, Tryd.ntmps6
    go_wp2_with (go_at_call 21; refine (lawG_bytes s ap n cp aq m cq N R aus nus cus k _ hs0 hn0 hm0 hnus0).mono ?_; rintro e w' ⟨r, rfl, rfl⟩; cases r)
    all_goals (go_ret; exact ⟨rfl, Below.refl _ _⟩)
  have d1 : decide ((32768 : Int) < (n : Int)) = false := by simp; omega
  by_cases x2 : 32768 < m
  · go_enter Tryd.func6, Tryd.ntmps6
    go_wp2_with (go_at_call 21; refine (lawG_bytes s ap n cp aq m cq N R aus nus cus k _ hs0 hn0 hm0 hnus0).mono ?_; rintro e w' ⟨r, rfl, rfl⟩; cases r)
    all_goals (go_ret; exact ⟨rfl, Below.refl _ _⟩)
  have d2 : decide ((32768 : Int) < (m : Int)) = false := by simp; omega
  by_cases x3 : 65536 < nus
  · go_enter Tryd.func6, Tryd.ntmps6
    go_wp2_with (go_at_call 21; refine (lawG_bytes s ap n cp aq m cq N R aus nus cus k _ hs0 hn0 hm0 hnus0).mono ?_; rintro e w' ⟨r, rfl, rfl⟩; cases r)
    all_goals (go_ret; exact ⟨rfl, Below.refl _ _⟩)
  have d3 : decide ((65536 : Int) < (nus : Int)) = false := by simp; omega
  by_cases x4 : N < 0
  · go_enter Tryd.func6, Tryd.ntmps6
    go_wp2_with (go_at_call 21; refine (lawG_bytes s ap n cp aq m cq N R aus nus cus k _ hs0 hn0 hm0 hnus0).mono ?_; rintro e w' ⟨r, rfl, rfl⟩; cases r)
    all_goals (go_ret; exact ⟨rfl, Below.refl _ _⟩)
  have d4 : decide (N < 0) = false := by simp; omega
  obtain ⟨N, rfl⟩ := Int.eq_ofNat_of_zero_le (show 0 ≤ N by omega)
  by_cases x5 : 65536 < (N : Int)
  · go_enter Tryd.func6, Tryd.ntmps6
    go_wp2_with (go_at_call 21; refine (lawG_bytes s ap n cp aq m cq N R aus nus cus k _ hs0 hn0 hm0 hnus0).mono ?_; rintro e w' ⟨r, rfl, rfl⟩; cases r)
    all_goals (go_ret; exact ⟨rfl, Below.refl _ _⟩)
  have d5 : decide ((65536 : Int) < (N : Int)) = false := by simp; omega
  by_cases x6 : R < 1
  · go_enter Tryd.func6, Tryd.ntmps6
    go_wp2_with (go_at_call 21; refine (lawG_bytes s ap n cp aq m cq N R aus nus cus k _ hs0 hn0 hm0 hnus0).mono ?_; rintro e w' ⟨r, rfl, rfl⟩; cases r)
    all_goals (go_ret; exact ⟨rfl, Below.refl _ _⟩)
  have d6 : decide (R < 1) = false := by simp; omega
  obtain ⟨R, rfl⟩ := Int.eq_ofNat_of_zero_le (show 0 ≤ R by omega)
  by_cases x7 : 65536 < (R : Int)
  · go_enter Tryd.func6, Tryd.ntmps6
    go_wp2_with (go_at_call 21; refine (lawG_bytes s ap n cp aq m cq N R aus nus cus k _ hs0 hn0 hm0 hnus0).mono ?_; rintro e w' ⟨r, rfl, rfl⟩; cases r)
    all_goals (go_ret; exact ⟨rfl, Below.refl _ _⟩)
  have d7 : decide ((65536 : Int) < (R : Int)) = false := by simp; omega
  by_cases x8 : nus < N
  · go_enter Tryd.func6, Tryd.ntmps6
    go_wp2_with (go_at_call 21; refine (lawG_bytes s ap n cp aq m cq N R aus nus cus k _ hs0 hn0 hm0 hnus0).mono ?_; rintro e w' ⟨r, rfl, rfl⟩; cases r)
    all_goals (go_ret; exact ⟨rfl, Below.refl _ _⟩)
  have d8 : decide (nus < N) = false := by simp; omega
  by_cases x9 : k < 0
  · go_enter Tryd.func6, Tryd.ntmps6
    go_wp2_with (go_at_call 21; refine (lawG_bytes s ap n cp aq m cq N R aus nus cus k _ hs0 hn0 hm0 hnus0).mono ?_; rintro e w' ⟨r, rfl, rfl⟩; cases r)
    all_goals (go_ret; exact ⟨rfl, Below.refl _ _⟩)
  have d9 : decide (k < 0) = false := by simp; omega
  obtain ⟨k, rfl⟩ := Int.eq_ofNat_of_zero_le (show 0 ≤ k by omega)
  by_cases x10 : N ≤ k
  · go_enter Tryd.func6, Tryd.ntmps6
    go_wp2_with (go_at_call 21; refine (lawG_bytes s ap n cp aq m cq N R aus nus cus k _ hs0 hn0 hm0 hnus0).mono ?_; rintro e w' ⟨r, rfl, rfl⟩; cases r)
    all_goals (go_ret; exact ⟨rfl, Below.refl _ _⟩)
  have d10 : decide (N ≤ k) = false := by simp; omega
  have eN : N ≤ 65536 := by omega
  have es : s.size ≤ 65536 := by omega
  have eR1 : 1 ≤ R := by omega
  have eR : R ≤ 65536 := by omega
  have ek : k < N := by omega
  have en : n ≤ 32768 := by omega
  have em : m ≤ 32768 := by omega
  have enus : nus ≤ 65536 := by omega
  have gnus : N ≤ nus := by omega
  clear x0 x1 x2 x3 x4 x5 x6 x7 x8 x9 x10
  go_enter Tryd.func6, Tryd.ntmps6
  go_upto_if 85 with (go_at_call 21; refine (lawG_bytes s ap n cp aq m cq N R aus nus cus k _ hs0 hn0 hm0 hnus0).mono ?_; rintro e w' ⟨r, rfl, rfl⟩; cases r)
  · go_ret; exact ⟨rfl, Below.refl _ _⟩
  go_cut [1, 15] (fun s1 s2 wx => ∃ a' c', s1 = .slice a' n c' ∧ Hid (Rd wx a' n (fun i => .int .u64 (pos i))) ∧ Hid (Rd wx aq m (fun i => .int .i64 (node i))) ∧ Hid (Rd wx aus nus (fun i => .bool (us i))) ∧ Hid (Below w.heap.size w wx))
  case first =>
    cases ap with
    | none =>
      go_wp2
      go_meet
      case rel => exact ⟨_, _, rfl, HA, HB, Hus, HE⟩
    | some ad =>
      go_upto_region 11 with (at_make; refine wpList_mk _ rfl _ _ 22 rfl 25 (.int .u64 0) 8 Tryd.underlying22 Tryd.info25 rfl _ _ _ _ n rfl rfl rfl rfl (by omega) (by omega) ?_; intro wk1 own1 hbk1 hsk1)
      go_wp2_with (refine wpList_cp rfl (.tmp 89) (.tmp 90) 22 22 rfl 25 Tryd.underlying22 Tryd.size25 _ n _ w.heap.size rfl rfl 25 _ _ own1 (HA.out.below hbk1) (fun _ => rfl) w.heap.size w hbk1 (Nat.le_refl _) ?_; intro wk2 own2 hbk2)
      go_meet
      case rel => exact ⟨_, _, rfl, own2.rd, HB.out.below hbk2, Hus.out.below hbk2, HE.out.trans (hbk2.mono HE.out.size)⟩
  clear HE HA HB Hus
  obtain ⟨ap1, cp1, rfl, HA, HB, Hus, HE⟩ := hcut
  go_upto_if 94 with fail
  go_cut [2, 16] (fun s1 s2 wx => ∃ a' c', s1 = .slice a' m c' ∧ Hid (Rd wx a' m (fun i => .int .i64 (node i))) ∧ Hid (Rd wx ap1 n (fun i => .int .u64 (pos i))) ∧ Hid (Rd wx aus nus (fun i => .bool (us i))) ∧ Hid (Below w.heap.size w wx))
  case first =>
    cases aq with
    | none =>
      go_wp2
      go_meet
      case rel => exact ⟨_, _, rfl, HB, HA, Hus, HE⟩
    | some ad =>
      go_upto_region 15 with (at_make; refine wpList_mk _ rfl _ _ 23 rfl 3 (.int .i64 0) 8 Tryd.underlying23 Tryd.info3 rfl _ _ _ _ m rfl rfl rfl rfl (by omega) (by omega) ?_; intro wk1 own1 hbk1 hsk1)
      go_wp2_with (refine wpList_cp rfl (.tmp 98) (.tmp 99) 23 23 rfl 3 Tryd.underlying23 Tryd.size3 _ m _ wc.heap.size rfl rfl 3 _ _ own1 (HB.out.below hbk1) (fun _ => rfl) wc.heap.size wc hbk1 (Nat.le_refl _) ?_; intro wk2 own2 hbk2)
      go_meet
      case rel => exact ⟨_, _, rfl, own2.rd, HA.out.below hbk2, Hus.out.below hbk2, HE.out.trans (hbk2.mono HE.out.size)⟩
  clear HE HA HB Hus
  obtain ⟨aq1, cq1, rfl, HB, HA, Hus, HE⟩ := hcut
  go_upto_if 103 with fail
  go_cut [5, 17] (fun s1 s2 wx => ∃ a' c', s1 = .slice a' nus c' ∧ Hid (Rd wx a' nus (fun i => .bool (us i))) ∧ Hid (Rd wx ap1 n (fun i => .int .u64 (pos i))) ∧ Hid (Rd wx aq1 m (fun i => .int .i64 (node i))) ∧ Hid (Below w.heap.size w wx))
  case first =>
    cases aus with
    | none =>
      go_wp2
      go_meet
      case rel => exact ⟨_, _, rfl, Hus, HA, HB, HE⟩
    | some ad =>
      go_upto_region 19 with (at_make; refine wpList_mk _ rfl _ _ 35 rfl 4 (.bool false) 1 Tryd.underlying35 Tryd.info4 rfl _ _ _ _ nus rfl rfl rfl rfl (by omega) (by omega) ?_; intro wk1 own1 hbk1 hsk1)
      go_wp2_with (refine wpList_cp rfl (.tmp 107) (.tmp 108) 35 35 rfl 4 Tryd.underlying35 Tryd.size4 _ nus _ wc.heap.size rfl rfl 4 _ _ own1 (Hus.out.below hbk1) (fun _ => rfl) wc.heap.size wc hbk1 (Nat.le_refl _) ?_; intro wk2 own2 hbk2)
      go_meet
      case rel => exact ⟨_, _, rfl, own2.rd, HA.out.below hbk2, HB.out.below hbk2, HE.out.trans (hbk2.mono HE.out.size)⟩
  clear HE HA HB Hus
  obtain ⟨aus1, cus1, rfl, Hus, HA, HB, HE⟩ := hcut
  by_cases hexs : 16 ≤ s.size ∧ hexTo s 16
  rotate_left
  · have HN : Hid (¬ (16 ≤ s.size ∧ hexTo s 16)) := hexs
    clear hexs
    go_wp2_with fail
    refine (prefixPos_no s _ hs0 HN.out).mono ?_
    rintro e wz ⟨rfl, rfl⟩
    go_wp2
    go_ret
    exact ⟨rfl, HE.out⟩
  obtain ⟨h16s, hxs⟩ := hexs
  have HXs : Hid (hexTo s 16) := hxs
  clear hxs
  go_wp2_with fail
  refine (prefixPos_yes s _ hs0 h16s HXs.out).mono ?_
  rintro e wp ⟨rfl, hwp⟩
  subst hwp
  go_wp2_with fail
  refine (ringOK_any ap1 aq1 n m N cp1 cq1 pos node _ (by omega) (by omega) eN HA.out HB.out).mono ?_
  rintro e wr2 ⟨r, rfl, hr, hbr⟩
  replace HA : Hid (Rd wr2 ap1 n (fun i => .int .u64 (pos i))) := HA.out.below hbr
  replace HB : Hid (Rd wr2 aq1 m (fun i => .int .i64 (node i))) := HB.out.below hbr
  replace Hus : Hid (Rd wr2 aus1 nus (fun i => .bool (us i))) := Hus.out.below hbr
  replace HE : Hid (Below w.heap.size w wr2) := HE.out.trans (hbr.mono HE.out.size)
  clear hbr
  cases r
  · clear hr
    go_wp2
    go_ret
    exact ⟨rfl, HE.out⟩
  have hfit := hr rfl
  clear hr
  obtain rfl : n = m := hfit.len
  obtain ⟨nd, hnd, hgood⟩ := hfit.good HPB.out
  have HG : Hid (Good n N pos nd) := hgood
  replace HB : Hid (Rd wr2 aq1 n (fun i => .int .i64 (nd i : Int))) := HB.out.congr (fun i hi => by rw [hnd i hi])
  clear hfit hnd hgood
  go_wp2_with (at_make; refine wpList_mk _ rfl _ _ 35 rfl 4 (.bool false) 1 Tryd.underlying35 Tryd.info4 rfl _ _ _ _ nus rfl rfl rfl rfl (by omega) (by omega) ?_; intro w8 own8 hb8 hs8)
  obtain ⟨ub, hub⟩ : ∃ ub, ub = wr2.heap.size := ⟨_, rfl⟩
  have HUB : Hid (ub = wr2.heap.size) := hub
  rw [← hub] at own8 ⊢
  clear hs8 hub
  go_loopw [21] (fun i wr => ∃ j : Nat, j ≤ nus ∧ i = .int .i64 j ∧ Hid (Below wr2.heap.size wr2 wr) ∧ Hid (Own wr ub nus 4 (fun i => if i < j then .bool (us i) else .bool false))) (fun i _ => nus - (intOf i).toNat)
  case atStart => exact ⟨0, Nat.zero_le _, rfl, hb8, own8.congr (fun i _ => by simp)⟩
  clear own8 hb8
  obtain ⟨j, hj, rfl, HBL, HOWN⟩ := hrel
  by_cases hlt : j < nus
  · obtain ⟨b1, o1, rfl, hc1⟩ := Hus.out.below HBL.out (by omega)
    have k1 : wr.cell? ⟨b1, o1 + j, none⟩ = some (.bool (us j)) := hc1 j (by omega)
    have m1 : (j : Int) < (nus : Int) := by omega
    have k3 : wr.cell? ⟨ub, j, none⟩ = some (.bool false) := by rw [HOWN.out.at j hlt, if_neg (by omega)]
    have k4 := HOWN.out.free j
    clear hc1
    have HN : Hid (Own (wr.setCell ⟨ub, j, none⟩ (.bool (us j))) ub nus 4 (fun i => if i < j + 1 then .bool (us i) else .bool false)) := (HOWN.out.set j hlt (.bool (us j))).congr (fun i hi => by
      by_cases e : i = j
      · subst e; simp
      · simp only [e, if_false]
        by_cases h : i < j
        · simp [h, show i < j + 1 by omega]
        · simp [h, show ¬ i < j + 1 by omega])
    have HB2 : Hid (∀ v : Value, Below wr2.heap.size wr2 (wr.setCell ⟨ub, j, none⟩ v)) := fun v => HBL.out.setCell (by show wr2.heap.size ≤ ub; have := HUB.out; omega) v
    go_wp2
    go_roundw
    case rel => exact ⟨j + 1, by omega, by go_num, HB2.out _, HN⟩
    case measure => simp [intOf]; omega
  obtain rfl : j = nus := by omega
  have k3 : wr.cell? ⟨ub, k, none⟩ = some (.bool (us k)) := by rw [HOWN.out.at k (by omega), if_pos (by omega)]
  have k4 := HOWN.out.free k
  have m1 : (k : Int) < (j : Int) := by omega
  have HV : Hid (Own (wr.setCell ⟨ub, k, none⟩ (.bool false)) ub j 4 (fun i => .bool (lose us k i))) := (HOWN.out.set k (by omega) (.bool false)).congr (fun i hi => by
    unfold lose notK
    by_cases e : i = k
    · subst e; simp
    · simp [e, hi])
  have HB2 : Hid (Below wr2.heap.size wr2 (wr.setCell ⟨ub, k, none⟩ (.bool false))) := HBL.out.setCell (by show wr2.heap.size ≤ ub; have := HUB.out; omega) _
  clear HOWN HBL
  go_wp2_with fail
  generalize wr.setCell ⟨ub, k, none⟩ (.bool false) = wv at *
  replace HA : Hid (Rd wv ap1 n (fun i => .int .u64 (pos i))) := HA.out.below HB2.out
  replace HB : Hid (Rd wv aq1 n (fun i => .int .i64 (nd i : Int))) := HB.out.below HB2.out
  replace Hus : Hid (Rd wv aus1 j (fun i => .bool (us i))) := Hus.out.below HB2.out
  replace HE : Hid (Below w.heap.size w wv) := HE.out.trans (HB2.out.mono HE.out.size)
  clear HB2 HUB k3 k4
  replace HV : Hid (Rd wv (some ⟨ub, 0, none⟩) j (fun i => .bool (lose us k i))) := HV.out.rd
  refine (newRing_at ap1 aq1 n cp1 cq1 N R R pos nd _ (by omega) rfl HA.out HB.out).mono ?_
  rintro e w3 ⟨rb, pb, rfl, hr3, l1, l2, hb3⟩
  replace HA : Hid (Rd w3 ap1 n (fun i => .int .u64 (pos i))) := HA.out.below hb3
  replace HB : Hid (Rd w3 aq1 n (fun i => .int .i64 (nd i : Int))) := HB.out.below hb3
  replace Hus : Hid (Rd w3 aus1 j (fun i => .bool (us i))) := Hus.out.below hb3
  replace HV : Hid (Rd w3 (some ⟨ub, 0, none⟩) j (fun i => .bool (lose us k i))) := HV.out.below hb3
  replace HE : Hid (Below w.heap.size w w3) := HE.out.trans (hb3.mono HE.out.size)
  have HR : Hid (RingAt w3 rb pb n N R pos (fun i => (nd i : Int))) := hr3
  clear hr3 hb3
  go_wp2_with fail
  refine (order_good s rb pb n N R pos nd _ hs0 h16s HXs.out HR.out l1 l2 (by omega) (by omega) HG.out).mono ?_
  rintro e w4 ⟨ao, co, rfl, ho, hb4⟩
  replace HA : Hid (Rd w4 ap1 n (fun i => .int .u64 (pos i))) := HA.out.below hb4
  replace HB : Hid (Rd w4 aq1 n (fun i => .int .i64 (nd i : Int))) := HB.out.below hb4
  replace Hus : Hid (Rd w4 aus1 j (fun i => .bool (us i))) := Hus.out.below hb4
  replace HV : Hid (Rd w4 (some ⟨ub, 0, none⟩) j (fun i => .bool (lose us k i))) := HV.out.below hb4
  replace HR : Hid (RingAt w4 rb pb n N R pos (fun i => (nd i : Int))) := HR.out.below hb4 l1 l2
  replace HE : Hid (Below w.heap.size w w4) := HE.out.trans (hb4.mono HE.out.size)
  have HO : Hid (Rd w4 ao N (fun i => .int .i64 (((ordP n pos nd (pvTo s 16)).getD i 0 : Nat) : Int))) := ho
  replace l1 : rb < w4.heap.size := by have := hb4.size; omega
  replace l2 : pb < w4.heap.size := by have := hb4.size; omega
  clear ho hb4
  go_wp2_with fail
  refine (zzHolders_any s rb pb n N R aus1 j cus1 us pos nd _ hs0 h16s HXs.out HR.out l1 l2 (by omega) (by omega) HG.out eR1 (by omega) gnus Hus.out).mono ?_
  rintro e w5 ⟨aX, cX, rfl, hgt, hb5⟩
  replace HA : Hid (Rd w5 ap1 n (fun i => .int .u64 (pos i))) := HA.out.below hb5
  replace HB : Hid (Rd w5 aq1 n (fun i => .int .i64 (nd i : Int))) := HB.out.below hb5
  replace Hus : Hid (Rd w5 aus1 j (fun i => .bool (us i))) := Hus.out.below hb5
  replace HV : Hid (Rd w5 (some ⟨ub, 0, none⟩) j (fun i => .bool (lose us k i))) := HV.out.below hb5
  replace HR : Hid (RingAt w5 rb pb n N R pos (fun i => (nd i : Int))) := HR.out.below hb5 l1 l2
  replace HO : Hid (Rd w5 ao N (fun i => .int .i64 (((ordP n pos nd (pvTo s 16)).getD i 0 : Nat) : Int))) := HO.out.below hb5
  replace HE : Hid (Below w.heap.size w w5) := HE.out.trans (hb5.mono HE.out.size)
  replace l1 : rb < w5.heap.size := by have := hb5.size; omega
  replace l2 : pb < w5.heap.size := by have := hb5.size; omega
  have HX : Hid (Rd w5 aX (hold (ordP n pos nd (pvTo s 16)) us R).length (fun i => .int .i64 (((hold (ordP n pos nd (pvTo s 16)) us R).getD i 0 : Nat) : Int))) := hgt
  clear hgt hb5
  go_wp2_with fail
  refine (zzHolders_any s rb pb n N R (some ⟨ub, 0, none⟩) j j (lose us k) pos nd _ hs0 h16s HXs.out HR.out l1 l2 (by omega) (by omega) HG.out eR1 (by omega) gnus HV.out).mono ?_
  rintro e w6 ⟨aY, cY, rfl, hgt, hb6⟩
  replace HA : Hid (Rd w6 ap1 n (fun i => .int .u64 (pos i))) := HA.out.below hb6
  replace HB : Hid (Rd w6 aq1 n (fun i => .int .i64 (nd i : Int))) := HB.out.below hb6
  replace Hus : Hid (Rd w6 aus1 j (fun i => .bool (us i))) := Hus.out.below hb6
  replace HV : Hid (Rd w6 (some ⟨ub, 0, none⟩) j (fun i => .bool (lose us k i))) := HV.out.below hb6
  replace HR : Hid (RingAt w6 rb pb n N R pos (fun i => (nd i : Int))) := HR.out.below hb6 l1 l2
  replace HO : Hid (Rd w6 ao N (fun i => .int .i64 (((ordP n pos nd (pvTo s 16)).getD i 0 : Nat) : Int))) := HO.out.below hb6
  replace HX : Hid (Rd w6 aX (hold (ordP n pos nd (pvTo s 16)) us R).length (fun i => .int .i64 (((hold (ordP n pos nd (pvTo s 16)) us R).getD i 0 : Nat) : Int))) := HX.out.below hb6
  replace HE : Hid (Below w.heap.size w w6) := HE.out.trans (hb6.mono HE.out.size)
  replace l1 : rb < w6.heap.size := by have := hb6.size; omega
  replace l2 : pb < w6.heap.size := by have := hb6.size; omega
  have HY : Hid (Rd w6 aY (hold (ordP n pos nd (pvTo s 16)) (lose us k) R).length (fun i => .int .i64 (((hold (ordP n pos nd (pvTo s 16)) (lose us k) R).getD i 0 : Nat) : Int))) := hgt
  clear hgt hb6
  clear HR
  clear l1 l2
  have hps := pv_range HXs.out
  have HF : Hid (OrderFits n N pos nd (pvTo s 16) (fun i => (ordP n pos nd (pvTo s 16)).getD i 0)) := ordP_fits HG.out hps.1 hps.2
  clear hps
  go_wp2_with fail
  refine (orderOK_yes ao ap1 aq1 n N co cp1 cq1 pos nd _ (pvTo s 16) _ (by omega) eN HO.out HA.out HB.out HG.out.range HG.out.pos HF.out).mono ?_
  rintro e w7 ⟨rfl, hb7⟩
  clear HA HB
  replace Hus : Hid (Rd w7 aus1 j (fun i => .bool (us i))) := Hus.out.below hb7
  replace HV : Hid (Rd w7 (some ⟨ub, 0, none⟩) j (fun i => .bool (lose us k i))) := HV.out.below hb7
  replace HO : Hid (Rd w7 ao N (fun i => .int .i64 (((ordP n pos nd (pvTo s 16)).getD i 0 : Nat) : Int))) := HO.out.below hb7
  replace HX : Hid (Rd w7 aX (hold (ordP n pos nd (pvTo s 16)) us R).length (fun i => .int .i64 (((hold (ordP n pos nd (pvTo s 16)) us R).getD i 0 : Nat) : Int))) := HX.out.below hb7
  replace HY : Hid (Rd w7 aY (hold (ordP n pos nd (pvTo s 16)) (lose us k) R).length (fun i => .int .i64 (((hold (ordP n pos nd (pvTo s 16)) (lose us k) R).getD i 0 : Nat) : Int))) := HY.out.below hb7
  replace HE : Hid (Below w.heap.size w w7) := HE.out.trans (hb7.mono HE.out.size)
  clear hb7 HF
  have HLEN : Hid ((ordP n pos nd (pvTo s 16)).length = N) := ordP_len HG.out _
  have HLT : Hid (∀ x, x ∈ (ordP n pos nd (pvTo s 16)) → x < j) := fun x hx => by have := ordP_lt HG.out _ x hx; omega
  have HND : Hid ((ordP n pos nd (pvTo s 16)).Nodup) := ordP_nodup _ _ _ _
  have hhl : (hold (ordP n pos nd (pvTo s 16)) us R).length ≤ R := by unfold hold; rw [List.length_take]; omega
  have hhl2 : (hold (ordP n pos nd (pvTo s 16)) (lose us k) R).length ≤ R := by unfold hold; rw [List.length_take]; omega
  generalize (ordP n pos nd (pvTo s 16)) = D at *
  have hDN : D.length = N := HLEN.out
  subst hDN
  clear HLEN HG
  go_wp2_with fail
  refine (firstUsable_any ao aus1 co j cus1 R D us _ eN (by omega) eR1 (by omega) HLT.out HO.out Hus.out).mono ?_
  rintro e w9 ⟨ah, ch, rfl, hrd, hb9⟩
  clear Hus
  replace HV : Hid (Rd w9 (some ⟨ub, 0, none⟩) j (fun i => .bool (lose us k i))) := HV.out.below hb9
  replace HO : Hid (Rd w9 ao D.length (fun i => .int .i64 ((D.getD i 0 : Nat) : Int))) := HO.out.below hb9
  replace HX : Hid (Rd w9 aX (hold D us R).length (fun i => .int .i64 (((hold D us R).getD i 0 : Nat) : Int))) := HX.out.below hb9
  replace HY : Hid (Rd w9 aY (hold D (lose us k) R).length (fun i => .int .i64 (((hold D (lose us k) R).getD i 0 : Nat) : Int))) := HY.out.below hb9
  replace HE : Hid (Below w.heap.size w w9) := HE.out.trans (hb9.mono HE.out.size)
  have HC : Hid (Rd w9 ah (hold D us R).length (fun i => .int .i64 (((hold D us R).getD i 0 : Nat) : Int))) := hrd
  clear hb9 hrd
  go_wp2_with fail
  refine (eqInts_yes aX ah (hold D us R).length cX ch (fun i => (((hold D us R).getD i 0 : Nat) : Int)) _ (by omega) HX.out HC.out).mono ?_
  rintro e w10 ⟨rfl, hb10⟩
  clear HC
  replace HV : Hid (Rd w10 (some ⟨ub, 0, none⟩) j (fun i => .bool (lose us k i))) := HV.out.below hb10
  replace HO : Hid (Rd w10 ao D.length (fun i => .int .i64 ((D.getD i 0 : Nat) : Int))) := HO.out.below hb10
  replace HX : Hid (Rd w10 aX (hold D us R).length (fun i => .int .i64 (((hold D us R).getD i 0 : Nat) : Int))) := HX.out.below hb10
  replace HY : Hid (Rd w10 aY (hold D (lose us k) R).length (fun i => .int .i64 (((hold D (lose us k) R).getD i 0 : Nat) : Int))) := HY.out.below hb10
  replace HE : Hid (Below w.heap.size w w10) := HE.out.trans (hb10.mono HE.out.size)
  clear hb10
  have hszw : w.heap.size ≤ w10.heap.size := HE.out.size
  have HYB0 : Hid (0 < (hold D (lose us k) R).length → ∀ b off, aY = some ⟨b, off, none⟩ → b < w10.heap.size) := fun hp b off e => by subst e; exact HY.out.lt hp
  obtain ⟨h, hh⟩ : ∃ h, h = hold D us R := ⟨_, rfl⟩
  obtain ⟨h2, hh2⟩ : ∃ h2, h2 = hold D (lose us k) R := ⟨_, rfl⟩
  have HH : Hid (h = hold D us R) := hh
  have HH2 : Hid (h2 = hold D (lose us k) R) := hh2
  rw [← hh] at HX hhl ⊢
  rw [← hh2] at HY hhl2 HYB0 ⊢
  clear hh hh2
  obtain ⟨hl, hhn⟩ : ∃ hl, hl = h.length := ⟨_, rfl⟩
  have HLN : Hid (hl = h.length) := hhn
  rw [← hhn] at HX hhl ⊢
  clear hhn
  obtain ⟨i0, hi0, hz0, hz1, hz2⟩ := info_parts Tryd.info3
  go_wp2_with (at_make; refine wpList_make_own _ rfl _ _ 23 rfl w10.heap.size 3 i0 (.int .i64 0) 1 Tryd.underlying23 hi0 hz0 hz1 _ _ _ (hl + 1) rfl rfl (by omega) (by rw [hz2]; omega) (by unfold maxLen; omega) (Nat.le_refl _) ?_; intro w11 hown hg11)
  have hB11 : Below w10.heap.size w10 w11 := (Below.refl _ _).grown hg11 (Nat.le_refl _) (fun k h => by cases h)
  clear hg11
  go_loopw [26, 27] (fun v i wr => ∃ (q m : Nat) (l : List Nat) (av : Option Addr) (cv : Nat), q ≤ hl ∧ m ≤ q ∧ i = .int .i64 q ∧ v = .slice av m cv ∧ Hid (l = (h.take q).filter (notK k) ∧ l.length = m) ∧
      Hid (wr.ownsRow w10.heap.size 3 1 (.slice av m cv) m (l.map (fun x : Nat => Value.int .i64 (x : Int)))) ∧ Hid (Below w10.heap.size w10 wr)) (fun _ i _ => hl - (intOf i).toNat)
  case atStart => exact ⟨0, 0, [], _, _, Nat.zero_le _, Nat.zero_le _, rfl, rfl, ⟨by simp, rfl⟩, hown, hB11⟩
  clear hown hB11
  obtain ⟨q, m, l, av, cv, hq, hmq, rfl, rfl, HL, HOWN, HBL⟩ := hrel
  by_cases hlt : q < hl
  · obtain ⟨bo, oo, rfl, hco⟩ := HX.out.below HBL.out (by omega)
    have hqD : q < h.length := by have := HLN.out; omega
    obtain ⟨x, hx⟩ : ∃ x, x = h.getD q 0 := ⟨_, rfl⟩
    have c1 : wr.cell? ⟨bo, oo + q, none⟩ = some (.int .i64 (x : Int)) := by rw [hx]; exact hco q hlt
    have hlo := HX.out.lt (by omega)
    have hlt1 : (q : Int) < (hl : Int) := by omega
    have hsz := HBL.out.size
    have htk : h.take (q + 1) = h.take q ++ [x] := by rw [take_snoc_getD hqD, hx]
    clear hco hx
    by_cases hxk : x = k
    · have hnk : notK k x = false := by simp [notK, hxk]
      have HL2 : Hid (l = (h.take (q + 1)).filter (notK k) ∧ l.length = m) := ⟨by rw [htk, filter_no hnk]; exact HL.out.1, HL.out.2⟩
      have htst : ((x : Int) != (k : Int)) = false := by simp [hxk]
      clear htk hnk hxk
      go_wp2
      go_roundw
      case rel => exact ⟨q + 1, m, l, av, cv, by omega, by omega, by go_num, rfl, HL2, HOWN, HBL⟩
      case measure => simp [intOf]; omega
    · have hnk : notK k x = true := by simp [notK, hxk]
      have HL2 : Hid (l ++ [x] = (h.take (q + 1)).filter (notK k) ∧ (l ++ [x]).length = m + 1) := ⟨by rw [htk, filter_yes hnk, ← HL.out.1], by simp [HL.out.2]⟩
      have htst : ((x : Int) != (k : Int)) = true := by rw [bne_iff_ne]; omega
      clear htk hnk hxk
      go_wp2_with (at_builtin; refine wpList_append_own _ rfl _ _ 23 rfl w10.heap.size 3 i0 (.int .i64 0) 1 8 Tryd.underlying23 hi0 hz0 hz1 hz2 rfl (by decide) _ _ _ rfl (HOWN.out.alloc _) ⟨wr.heap.size, 0, none⟩ 1 1 [.int .i64 (x : Int)] rfl rfl (cell_one_new _ _ _) ?c2 ?c3 ?c4 ?c5 ?_)
      case c2 => first | rfl | (intro u hu; simp at hu; subst hu; rfl)
      case c3 => unfold maxLen; omega
      case c4 => omega
      case c5 => first | omega | (simp; omega)
      intro v' w12 hown' hgrow _
      have HBL2 : Hid (Below w10.heap.size w10 w12) := (HBL.out.alloc hsz _).grown hgrow (by simp; omega) (fun j h => (HOWN.out.lt j h).1)
      obtain ⟨av2, cv2, rfl⟩ := ownsRow_shape hown'
      have HOWN2 : Hid (w12.ownsRow w10.heap.size 3 1 (.slice av2 (m + 1) cv2) (m + 1) ((l ++ [x]).map (fun x : Nat => Value.int .i64 (x : Int)))) := by
        show World.ownsRow _ _ _ _ _ _ _
        simpa using hown'
      clear hown' hgrow c1
      go_wp2
      go_roundw
      case rel => exact ⟨q + 1, m + 1, l ++ [x], av2, cv2, by omega, by omega, by go_num, rfl, HL2, HOWN2, HBL2⟩
      case measure => simp [intOf]; omega
  obtain rfl : q = hl := by omega
  have HL3 : Hid (l = h.filter (notK k) ∧ l.length = m) := ⟨by rw [HL.out.1, List.take_of_length_le (by have := HLN.out; omega)], HL.out.2⟩
  clear HL
  replace HE : Hid (Below w.heap.size w wr) := HE.out.trans (HBL.out.mono HE.out.size)
  have hszE : w.heap.size ≤ w10.heap.size ∧ w10.heap.size ≤ wr.heap.size := ⟨hszw, HBL.out.size⟩
  replace HV : Hid (Rd wr (some ⟨ub, 0, none⟩) j (fun i => .bool (lose us k i))) := HV.out.below HBL.out
  replace HO : Hid (Rd wr ao D.length (fun i => .int .i64 ((D.getD i 0 : Nat) : Int))) := HO.out.below HBL.out
  replace HX : Hid (Rd wr aX q (fun i => .int .i64 ((h.getD i 0 : Nat) : Int))) := HX.out.below HBL.out
  replace HY : Hid (Rd wr aY h2.length (fun i => .int .i64 ((h2.getD i 0 : Nat) : Int))) := HY.out.below HBL.out
  clear HBL
  by_cases hml : m = q
  · subst hml
    have hY : h2 = h := by
      rw [HH2.out, HH.out]
      refine least_stay ?_
      have h1 := HL3.out
      rw [← HH.out, ← HLN.out, ← h1.1]
      exact h1.2
    subst hY
    have htst : ((m : Int) == (m : Int)) = true := by simp
    clear HH HH2 HL3 HOWN
    rw [← HLN.out] at HY ⊢
    go_wp2_with fail
    refine (eqInts_yes aY aX m cY cX (fun i => ((h2.getD i 0 : Nat) : Int)) _ (by omega) HY.out HX.out).mono ?_
    rintro e w13 ⟨rfl, hb13⟩
    replace HE : Hid (Below w.heap.size w w13) := HE.out.trans (hb13.mono HE.out.size)
    clear hb13
    go_wp2
    go_ret
    exact ⟨rfl, HE.out⟩
  have htst : ((m : Int) == (q : Int)) = false := by rw [beq_eq_false_iff_ne]; omega
  have hq1 : 1 ≤ q := by omega
  have hne : h ≠ [] := fun e => by have := HLN.out; rw [e] at this; simp at this; omega
  obtain ⟨p0, hp0, hp1, hp2⟩ := prefix_place (D := D) (us := us) (h := h) (by rw [HH.out]; exact hold_prefix _ _ _) hne
  have HW : Hid (h2 = l ++ ((D.drop (p0 + 1)).filter (lose us k)).take 1) := by
    show _ = _
    rw [HH2.out, HL3.out.1, HH.out]
    refine least_move HND.out (by rw [hp1, HH.out]) ?_
    rw [← HH.out, ← HL3.out.1, HL3.out.2, ← HLN.out]
    exact hml
  obtain ⟨q, rfl⟩ : ∃ z, q = z + 1 := ⟨q - 1, by omega⟩
  have hlast : h.length - 1 = q := by have := HLN.out; omega
  rw [hlast] at hp2
  have HP2 : Hid (D.getD p0 0 = h.getD q 0) := hp2
  obtain ⟨bx, ox, rfl, hcx⟩ := HX.out (by omega)
  have c1 : wr.cell? ⟨bx, ox + q, none⟩ = some (.int .i64 ((h.getD q 0 : Nat) : Int)) := hcx q (by omega)
  have m2 : (q : Int) < (q : Int) + 1 := by omega
  have HPL : Hid (∀ z, z < p0 → ((D.getD z 0 : Nat) : Int) ≠ ((h.getD q 0 : Nat) : Int)) := fun z hz => by
    have := place_first HND.out hz hp0
    rw [HP2.out] at this
    omega
  clear hcx hp1 hp2 hlast hne HH HH2 HND hml
  generalize h.getD q 0 = lx at *
  go_wp2_with fail
  refine (indexOf_yes ao D.length co p0 (fun i => ((D.getD i 0 : Nat) : Int)) (lx : Int) _ (by omega) hp0 (by show ((D.getD p0 0 : Nat) : Int) = _; rw [HP2.out]) HPL.out HO.out).mono ?_
  rintro e w14 ⟨rfl, rfl⟩
  clear HP2 HPL c1
  go_wp2
  go_loop [26, 29] (fun v i => ∃ z : Nat, p0 + 1 ≤ z ∧ z ≤ D.length ∧ i = .int .i64 z ∧ v = .slice av m cv ∧ Hid ((D.drop (p0 + 1)).filter (lose us k) = (D.drop z).filter (lose us k))) (fun _ i => D.length - (intOf i).toNat)
  case atStart => exact ⟨p0 + 1, Nat.le_refl _, by omega, by go_num, rfl, rfl⟩
  obtain ⟨z, hz1', hz2', rfl, rfl, HZ⟩ := hrel
  by_cases hlt : z < D.length
  · obtain ⟨bo, oo, rfl, hco⟩ := HO.out (by omega)
    have hxj := HLT.out _ (getD_mem hlt)
    obtain ⟨x, hx⟩ : ∃ x, x = D.getD z 0 := ⟨_, rfl⟩
    have hdr : D.drop z = x :: D.drop (z + 1) := by
      rw [List.drop_eq_getElem_cons hlt, hx]; simp [List.getD, hlt]
    have c1 : w14.cell? ⟨bo, oo + z, none⟩ = some (.int .i64 (x : Int)) := by rw [hx]; exact hco z hlt
    rw [← hx] at hxj
    have c2 : w14.cell? ⟨ub, x, none⟩ = some (.bool (lose us k x)) := by have := HV.out.at x hxj; rwa [Nat.zero_add] at this
    have hlt1 : (z : Int) < (D.length : Int) := by omega
    have hxI : (x : Int) < (j : Int) := by omega
    clear hco hx
    cases hus : lose us k x <;> rw [hus] at c2
    · have HZ2 : Hid ((D.drop (p0 + 1)).filter (lose us k) = (D.drop (z + 1)).filter (lose us k)) := by
        show _ = _
        rw [HZ.out, hdr, List.filter_cons, hus]; rfl
      clear hus hdr
      go_wp2
      go_round
      case rel => exact ⟨z + 1, by omega, by omega, by go_num, rfl, HZ2⟩
      case measure => simp [intOf]; omega
    · have HZ2 : Hid (h2 = l ++ [x]) := by
        show _ = _
        rw [HW.out, HZ.out, hdr, List.filter_cons, hus]; rfl
      have hsz := HE.out.size
      clear hus hdr HZ HW
      go_wp2_with (at_builtin; refine wpList_append_own _ rfl _ _ 23 rfl w10.heap.size 3 i0 (.int .i64 0) 1 8 Tryd.underlying23 hi0 hz0 hz1 hz2 rfl (by decide) _ _ _ rfl (HOWN.out.alloc _) ⟨w14.heap.size, 0, none⟩ 1 1 [.int .i64 (x : Int)] rfl rfl (cell_one_new _ _ _) ?c2 ?c3 ?c4 ?c5 ?_)
      case c2 => first | rfl | (intro u hu; simp at hu; subst hu; rfl)
      case c3 => unfold maxLen; omega
      case c4 => omega
      case c5 => first | omega | (simp; omega)
      intro v' w12 hown' hgrow _
      have HBL2 : Hid (Below w10.heap.size w14 w12) := ((Below.refl _ _).alloc (by omega) _).grown hgrow (by simp; omega) (fun j h => (HOWN.out.lt j h).1)
      have HBLA : Hid (Below w.heap.size w w12) := HE.out.trans (HBL2.out.mono (by omega))
      have HOWN2 : Hid (w12.ownsRow w10.heap.size 3 1 v' (m + 1) ((l ++ [x]).map (fun x : Nat => Value.int .i64 (x : Int)))) := by
        show World.ownsRow _ _ _ _ _ _ _
        simpa using hown'
      obtain ⟨aw, cw, rfl, hrw⟩ := owns_reads_n (show m + 1 = (l ++ [x]).length by have := HL3.out.2; simp; omega) HOWN2.out
      have hl2 : (l ++ [x]).length = h2.length := by rw [HZ2.out]
      rw [hl2, ← HZ2.out] at hrw
      have HRW : Hid (Rd w12 aw h2.length (fun i => .int .i64 ((h2.getD i 0 : Nat) : Int))) := hrw
      have HY2 : Hid (Rd w12 aY h2.length (fun i => .int .i64 ((h2.getD i 0 : Nat) : Int))) := HY.out.belowN HBL2.out (HYB0.out (by rw [HZ2.out]; simp))
      rw [hl2]
      clear hown' hgrow c1 c2 hrw hl2
      go_wp2_with fail
      refine (eqInts_yes aY aw h2.length cY cw (fun i => ((h2.getD i 0 : Nat) : Int)) _ (by omega) HY2.out HRW.out).mono ?_
      rintro e w13 ⟨rfl, hb13⟩
      replace HE : Hid (Below w.heap.size w w13) := HBLA.out.trans (hb13.mono HBLA.out.size)
      clear hb13
      go_wp2
      go_ret
      exact ⟨rfl, HE.out⟩
  obtain rfl : z = D.length := by omega
  have hll : h2 = l := by
    rw [HW.out, HZ.out, List.drop_of_length_le (Nat.le_refl _)]; simp
  obtain ⟨aw, cw, hev, hrw⟩ := owns_reads_n HL3.out.2.symm HOWN.out
  rw [← hll] at hrw hev
  obtain ⟨rfl, rfl, rfl⟩ := slice_inj hev
  have HRW : Hid (Rd w14 av h2.length (fun i => .int .i64 ((h2.getD i 0 : Nat) : Int))) := hrw
  clear hrw hll HW HZ HOWN HL3 hev
  go_wp2_with fail
  refine (eqInts_yes aY av h2.length cY cv (fun i => ((h2.getD i 0 : Nat) : Int)) _ (by omega) HY.out HRW.out).mono ?_
  rintro e w13 ⟨rfl, hb13⟩
  replace HE : Hid (Below w.heap.size w w13) := HE.out.trans (hb13.mono HE.out.size)
  clear hb13
  go_wp2
  go_ret
  exact ⟨rfl, HE.out⟩

end Go.Proofs.Qxb6608942aDoor
