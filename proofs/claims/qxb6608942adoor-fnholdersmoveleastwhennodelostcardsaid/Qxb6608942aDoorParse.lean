import Derived.Test.Qxb6608942aDoorHexA
namespace Go.Proofs.Qxb6608942aDoor
open Go.RowKit

theorem lower_any (c : Int) (w : World) :
    Calls Tryd.prog 43 #[.int .u8 c] w fun e w' => e = .returned (.int .u8 (bits .or .u8 c 32)) ∧ w' = w := by
  go_enter Tryd.func43, Tryd.ntmps43
  go_wp2
  go_ret
  exact ⟨rfl, rfl⟩

theorem lower_hex {c : Int} (h : isHx c = true) (h2 : ¬ c ≤ 57) : bits .or .u8 c 32 = hxv c + 87 := by
  have := isHx_parts h
  have : c = 97 ∨ c = 98 ∨ c = 99 ∨ c = 100 ∨ c = 101 ∨ c = 102 ∨ c = 65 ∨ c = 66 ∨ c = 67 ∨ c = 68 ∨ c = 69 ∨ c = 70 := by omega
  rcases this with h | h | h | h | h | h | h | h | h | h | h | h <;> subst h <;> decide

theorem bytesRow_at (s : ByteArray) (cap k : Nat) (hk : k < s.size) : (bytesRow s cap)[k]? = some (.int .u8 (byt s k)) := by
  have h2 : k < s.data.size := hk
  unfold bytesRow byt
  rw [Array.getElem?_append_left (by simpa using h2)]
  simp [Array.getElem?_eq_getElem h2]

theorem size_ne {s : ByteArray} (h : 0 < s.size) : s.toList.isEmpty = false := by
  have h2 : s.toList = s.data.toList := ByteArray.toList_eq s
  rw [h2]
  have : 0 < s.data.size := h
  cases hd : s.data.toList with
  | nil => have e : s.data.toList.length = 0 := by rw [hd]; rfl
           simp at e; simp [e] at this
  | cons a l => rfl

theorem wrap_top : IntKind.u64.wrap (IntKind.u64.wrap 18446744073709551616 - 1) = 18446744073709551615 := by decide

set_option maxRecDepth 100000 in
set_option maxHeartbeats 1000000 in
theorem parse_yes (s : ByteArray) (w : World) (h16 : s.size = 16) (hx : hexTo s 16) :
    Calls Tryd.prog 41 #[.string s, .int .i64 16, .int .i64 64] w fun e w' => e = .returned (.tuple #[.int .u64 (pvTo s 16), .nilIface]) ∧ Below w.heap.size w w' := by
  have HX : Hid (hexTo s 16) := hx
  clear hx
  have hcv2 := fun w s => run_bytes_of_string (P := Tryd.prog) w 9 64 5 s Tryd.underlying9 Tryd.underlying64 Tryd.underlying5
  have hne : s.toList.isEmpty = false := size_ne (by omega)
  have hs1 : 16 ≤ s.size := by omega
  have hs2 : s.size ≤ 16 := by omega
  have HS : Hid (s.size = 16) := h16
  clear h16
  go_enter Tryd.func41, Tryd.ntmps41
  go_wp2_with fail
  generalize hm : IntKind.u64.wrap (IntKind.u64.wrap 18446744073709551616 - 1) = m
  have hmb : (18446744073709551615 : Int) ≤ m := by rw [← hm, wrap_top]; exact Int.le_refl _
  clear hm
  generalize hcap : grownCap w s.size 0 5 = cap
  generalize hW : (w.alloc (Obj.cells (bytesRow s cap) 5 ((bytesRow s cap).size, (bytesRow s cap).size + 1))).drew = W
  have hcell : ∀ k, k < 16 → W.cell? ⟨w.heap.size, k, none⟩ = some (.int .u8 (byt s k)) := fun k hk => by
    rw [← hW]
    show (w.alloc (Obj.cells (bytesRow s cap) 5 ((bytesRow s cap).size, (bytesRow s cap).size + 1))).cell? _ = _
    rw [World.cell?_alloc_mark]
    exact bytesRow_at s cap k (by omega)
  have HBl : Hid (Below w.heap.size w W) := by
    rw [← hW]
    exact ((Below.refl _ _).alloc (Nat.le_refl _) _).drew
  clear hW hcap hcv2
  go_loop [12, 13, 101] (fun u p i => ∃ k : Nat, k ≤ 16 ∧ u = .bool false ∧ i = .int .i64 k ∧ p = .int .u64 (pvTo s k)) (fun _ _ i => 16 - (intOf i).toNat)
  case atStart => exact ⟨0, Nat.zero_le _, rfl, rfl, rfl⟩
  case round =>
    obtain ⟨k, hk, rfl, rfl, rfl⟩ := hrel
    by_cases hlt : k < 16
    · have hpb := pvTo_bd s k (fun i hi => HX.out i (by omega))
      have hp := pow16_le (k := k) (by omega)
      have hd := hxv_bd (HX.out k hlt)
      have HK : Hid (isHx (byt s k) = true) := HX.out k hlt
      have hp0 : 0 ≤ pvTo s k := hpb.1
      have hp1 : pvTo s k < 1152921504606846976 := by omega
      have HP : Hid (pvTo s (k + 1) = pvTo s k * 16 + hxv (byt s k)) := rfl
      have hc := hcell k hlt
      have hbb := byt_bd s k
      have hc95 : (byt s k == 95) = false := by have := isHx_parts HK.out; rw [beq_eq_false_iff_ne]; omega
      clear hpb hp hcell
      by_cases hdig : byt s k ≤ 57
      · have hd1 : 48 ≤ byt s k := by have := isHx_parts HK.out; omega
        have HE : Hid (hxv (byt s k) = byt s k - 48) := by show hxv _ = _; unfold hxv; rw [if_pos hdig]
        generalize byt s k = c at *
        go_wp2_with fail
        go_round
        case rel => exact ⟨k + 1, by omega, rfl, by go_num, by rw [HP.out, HE.out]⟩
        case measure => simp [intOf]; omega
      · have hpt := isHx_parts HK.out
        have hE : bits .or .u8 (byt s k) 32 = hxv (byt s k) + 87 := lower_hex HK.out hdig
        have hlow : ∀ w, Calls Tryd.prog 43 #[.int .u8 (byt s k)] w fun e w' => e = .returned (.int .u8 (hxv (byt s k) + 87)) ∧ w' = w := fun w => by
          have := lower_any (byt s k) w
          rwa [hE] at this
        have HL : Hid (∀ w, Calls Tryd.prog 43 #[.int .u8 (byt s k)] w fun e w' => e = .returned (.int .u8 (hxv (byt s k) + 87)) ∧ w' = w) := hlow
        have hd10 : 10 ≤ hxv (byt s k) := by unfold hxv; rw [if_neg hdig]; split <;> omega
        have hd15 : hxv (byt s k) ≤ 15 := hd.2
        have hdd : decide (byt s k ≤ 57) = false := by simpa using hdig
        clear hE hlow hpt hd
        generalize hxv (byt s k) = d at *
        generalize byt s k = c at *
        go_wp2_with (go_at_call 43; refine (HL.out _).mono ?_; rintro e w' ⟨rfl, rfl⟩)
        go_round
        case rel => exact ⟨k + 1, by omega, rfl, by go_num, by rw [HP.out]; go_num⟩
        case measure => simp [intOf]; omega
    · obtain rfl : k = 16 := by omega
      go_wp2
      go_ret2
      exact ⟨rfl, HBl.out⟩

set_option maxHeartbeats 400000 in
theorem parseUint_yes (s : ByteArray) (w : World) (h16 : s.size = 16) (hx : hexTo s 16) :
    Calls Tryd.prog 37 #[.string s, .int .i64 16, .int .i64 64] w fun e w' => e = .returned (.tuple #[.int .u64 (pvTo s 16), .nilIface]) ∧ Below w.heap.size w w' := by
  have H16 : Hid (s.size = 16) := h16
  have HX : Hid (hexTo s 16) := hx
  clear h16 hx
  go_enter Tryd.func37, Tryd.ntmps37
  go_wp2_with fail
  refine (parse_yes s _ H16.out HX.out).mono ?_
  rintro e w' ⟨rfl, hb⟩
  go_wp2
  go_ret2
  exact ⟨rfl, hb⟩
end Go.Proofs.Qxb6608942aDoor
