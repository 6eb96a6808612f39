import Derived.Test.Qxb6608942aDoorLeaf
namespace Go.Proofs.Qxb6608942aDoor
open Go.RowKit

def isHx (c : Int) : Bool := decide (48 ≤ c ∧ c ≤ 57) || decide (97 ≤ c ∧ c ≤ 102) || decide (65 ≤ c ∧ c ≤ 70)
def hxv (c : Int) : Int := if c ≤ 57 then c - 48 else if c ≤ 70 then c - 55 else c - 87
theorem isHx_parts {c : Int} (h : isHx c = true) : (48 ≤ c ∧ c ≤ 57) ∨ (97 ≤ c ∧ c ≤ 102) ∨ (65 ≤ c ∧ c ≤ 70) := by
  simp [isHx] at h; omega
theorem hxv_bd {c : Int} (h : isHx c = true) : 0 ≤ hxv c ∧ hxv c ≤ 15 := by
  have := isHx_parts h
  unfold hxv; split
  · omega
  · split <;> omega

set_option maxHeartbeats 400000 in
theorem hexDigit_yes (c : Int) (w : World) (h : isHx c = true) :
    Calls Tryd.prog 30 #[.int .u8 c] w fun e w' => e = .returned (.tuple #[.int .u64 (hxv c), .bool true]) ∧ w' = w := by
  have h' := isHx_parts h
  clear h
  rcases h' with h | h | h
  · have h2 : hxv c = c - 48 := by unfold hxv; rw [if_pos (by omega)]
    rw [h2]; clear h2
    obtain ⟨h1, h2⟩ := h
    go_enter Tryd.func30, Tryd.ntmps30
    go_wp2
    go_ret2
    exact ⟨rfl, rfl⟩
  · have h2 : hxv c = c - 97 + 10 := by unfold hxv; rw [if_neg (by omega), if_neg (by omega)]; omega
    rw [h2]; clear h2
    obtain ⟨h1, h2⟩ := h
    have h3 : decide (c ≤ 57) = false := by simp; omega
    go_enter Tryd.func30, Tryd.ntmps30
    go_wp2
    go_ret2
    exact ⟨rfl, rfl⟩
  · have h2 : hxv c = c - 65 + 10 := by unfold hxv; rw [if_neg (by omega), if_pos (by omega)]; omega
    rw [h2]; clear h2
    obtain ⟨h1, h2⟩ := h
    have h3 : decide (c ≤ 57) = false := by simp; omega
    have h4 : decide (97 ≤ c) = false := by simp; omega
    go_enter Tryd.func30, Tryd.ntmps30
    go_wp2
    go_ret2
    exact ⟨rfl, rfl⟩

set_option maxHeartbeats 400000 in
theorem hexDigit_no (c : Int) (w : World) (h : isHx c = false) :
    Calls Tryd.prog 30 #[.int .u8 c] w fun e w' => e = .returned (.tuple #[.int .u64 0, .bool false]) ∧ w' = w := by
  simp [isHx] at h
  obtain ⟨⟨h1, h2⟩, h3⟩ := h
  go_enter Tryd.func30, Tryd.ntmps30
  go_wp2
  all_goals first | (exfalso; omega) | skip
  all_goals (go_ret2; exact ⟨rfl, rfl⟩)

/-- The k-th byte of a string. -/
def byt (s : ByteArray) (k : Nat) : Int := ((s.data.toList.getD k 0).toNat : Int)
theorem byt_eq {s : ByteArray} {k : Nat} (h : k < s.size) : byt s k = (s[k].toNat : Int) := by
  unfold byt
  have h2 : k < s.data.toList.length := by simpa using h
  simp [List.getD, List.getElem?_eq_getElem h2]
  rfl
theorem byt_bd (s : ByteArray) (k : Nat) : 0 ≤ byt s k ∧ byt s k ≤ 255 := by
  unfold byt
  have := (s.data.toList.getD k 0).toNat_lt
  omega
/-- The position read off the first k hex digits. -/
def pvTo (s : ByteArray) : Nat → Int
  | 0 => 0
  | k + 1 => pvTo s k * 16 + hxv (byt s k)
def hexTo (s : ByteArray) (k : Nat) : Prop := ∀ i, i < k → isHx (byt s i) = true
theorem pvTo_bd (s : ByteArray) : ∀ k, hexTo s k → 0 ≤ pvTo s k ∧ pvTo s k < 16 ^ k
  | 0, _ => by simp [pvTo]
  | k + 1, h => by
    have h1 := pvTo_bd s k (fun i hi => h i (by omega))
    have h2 := hxv_bd (h k (by omega))
    have e : (16 : Int) ^ (k + 1) = 16 ^ k * 16 := Int.pow_succ ..
    simp only [pvTo]
    omega
theorem pow16_le {k : Nat} (h : k ≤ 15) : (16 : Int) ^ k ≤ 1152921504606846976 := by
  have h1 : (16 : Nat) ^ k ≤ 16 ^ 15 := Nat.pow_le_pow_right (by decide) h
  have h2 : ((16 ^ k : Nat) : Int) ≤ ((16 ^ 15 : Nat) : Int) := by exact_mod_cast h1
  simpa using h2

theorem or16 (p d : Int) (h0 : 0 ≤ p) (h1 : p < 1152921504606846976) (h2 : 0 ≤ d) (h3 : d ≤ 15) : bits .or .u64 (p * 16) d = p * 16 + d := by
  obtain ⟨a, rfl⟩ := Int.eq_ofNat_of_zero_le h0
  obtain ⟨b, rfl⟩ := Int.eq_ofNat_of_zero_le h2
  rw [u64_or _ _ (by omega) (by omega) (by omega) (by omega)]
  have e1 : ((a : Int) * 16).toNat = 2 ^ 4 * a := by omega
  have e2 : ((b : Int)).toNat = b := by omega
  rw [e1, e2, ← Nat.two_pow_add_eq_or_of_lt (i := 4) (by omega)]
  omega

set_option maxHeartbeats 400000 in
theorem prefixPos_yes (s : ByteArray) (w : World) (hs : s.size ≤ maxLen) (h16 : 16 ≤ s.size) (hx : hexTo s 16) :
    Calls Tryd.prog 11 #[.string s] w fun e w' => e = .returned (.tuple #[.int .u64 (pvTo s 16), .bool true]) ∧ w' = w := by
  unfold maxLen at hs
  have HX : Hid (hexTo s 16) := hx
  clear hx
  go_enter Tryd.func11, Tryd.ntmps11
  go_wp2
  go_loop [4, 5] (fun p i => ∃ k : Nat, k ≤ 16 ∧ i = .int .i64 k ∧ p = .int .u64 (pvTo s k)) (fun _ i => 16 - (intOf i).toNat)
  case atStart => exact ⟨0, Nat.zero_le _, rfl, rfl⟩
  case round =>
    obtain ⟨k, hk, rfl, rfl⟩ := hrel
    by_cases hlt : k < 16
    · have hpb := pvTo_bd s k (fun i hi => HX.out i (by omega))
      have hp := pow16_le (k := k) (by omega)
      have hd := hxv_bd (HX.out k hlt)
      have HK : Hid (isHx (byt s k) = true) := HX.out k hlt
      have hb : k < s.size := by omega
      have HB : Hid (byt s k = (s[k].toNat : Int)) := byt_eq hb
      have hp0 : 0 ≤ pvTo s k := hpb.1
      have hp1 : pvTo s k < 1152921504606846976 := by omega
      have HP : Hid (pvTo s (k + 1) = bits .or .u64 (pvTo s k * 16) (hxv (byt s k))) := by
        show pvTo s (k + 1) = _
        rw [or16 _ _ hp0 hp1 hd.1 hd.2]; rfl
      clear hpb hp
      go_wp2_with fail
      rw [← HB.out]
      refine (hexDigit_yes _ _ HK.out).mono ?_
      rintro e w' ⟨rfl, rfl⟩
      generalize hxv (byt s k) = d at *
      go_wp2
      go_round
      case rel => exact ⟨k + 1, by omega, by go_num, by rw [HP.out]⟩
      case measure => simp [intOf]; omega
    · obtain rfl : k = 16 := by omega
      go_wp2
      go_ret2
      exact ⟨rfl, rfl⟩

set_option maxHeartbeats 400000 in
theorem prefixPos_no (s : ByteArray) (w : World) (hs : s.size ≤ maxLen) (hx : ¬ (16 ≤ s.size ∧ hexTo s 16)) :
    Calls Tryd.prog 11 #[.string s] w fun e w' => e = .returned (.tuple #[.int .u64 0, .bool false]) ∧ w' = w := by
  unfold maxLen at hs
  by_cases h16 : 16 ≤ s.size
  · have HX : Hid (¬ hexTo s 16) := fun h => hx ⟨h16, h⟩
    clear hx
    go_enter Tryd.func11, Tryd.ntmps11
    go_wp2
    go_loop [4, 5] (fun p i => ∃ k : Nat, k ≤ 16 ∧ i = .int .i64 k ∧ Hid (hexTo s k) ∧ p = .int .u64 (pvTo s k)) (fun _ i => 16 - (intOf i).toNat)
    case atStart => exact ⟨0, Nat.zero_le _, rfl, fun i hi => by omega, rfl⟩
    case round =>
      obtain ⟨k, hk, rfl, HT, rfl⟩ := hrel
      by_cases hlt : k < 16
      · have hpb := pvTo_bd s k HT.out
        have hp := pow16_le (k := k) (by omega)
        have hb : k < s.size := by omega
        have HB : Hid (byt s k = (s[k].toNat : Int)) := byt_eq hb
        have hp0 : 0 ≤ pvTo s k := hpb.1
        have hp1 : pvTo s k < 1152921504606846976 := by omega
        clear hpb hp
        cases hh : isHx (byt s k)
        · have HH : Hid (isHx (byt s k) = false) := hh
          clear hh
          go_wp2_with fail
          rw [← HB.out]
          refine (hexDigit_no _ _ HH.out).mono ?_
          rintro e w' ⟨rfl, rfl⟩
          go_wp2
          go_ret2
          exact ⟨rfl, rfl⟩
        · have HH : Hid (isHx (byt s k) = true) := hh
          clear hh
          have hd := hxv_bd HH.out
          have HT2 : Hid (hexTo s (k + 1)) := fun i hi => by
            rcases Nat.lt_or_ge i k with h | h
            · exact HT.out i h
            · rw [show i = k by omega]; exact HH.out
          have HP : Hid (pvTo s (k + 1) = bits .or .u64 (pvTo s k * 16) (hxv (byt s k))) := by
            show pvTo s (k + 1) = _
            rw [or16 _ _ hp0 hp1 hd.1 hd.2]; rfl
          go_wp2_with fail
          rw [← HB.out]
          refine (hexDigit_yes _ _ HH.out).mono ?_
          rintro e w' ⟨rfl, rfl⟩
          generalize hxv (byt s k) = d at *
          go_wp2
          go_round
          case rel => exact ⟨k + 1, by omega, by go_num, HT2, by rw [HP.out]⟩
          case measure => simp [intOf]; omega
      · obtain rfl : k = 16 := by omega
        exact absurd HT.out HX.out
  · have h16' : s.size < 16 := by omega
    clear hx h16
    go_enter Tryd.func11, Tryd.ntmps11
    go_wp2
    go_ret2
    exact ⟨rfl, rfl⟩
end Go.Proofs.Qxb6608942aDoor
