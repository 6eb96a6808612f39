import Derived.Test.Qxb6608942aDoorRingOK
import Derived.Test.Qxb6608942aDoorPlainB
namespace Go.Proofs.Qxb6608942aDoor
open Go.RowKit

theorem seenB_no {node : Nat → Int} {i : Nat} : ∀ k, (∀ j, j < k → node j ≠ (i : Int)) → seenB node k i = false
  | 0, _ => rfl
  | k + 1, h => by
    simp only [seenB]
    rw [seenB_no k (fun j hj => h j (by omega))]
    simpa using h k (by omega)

/-- What the order's test asks. -/
structure OrderFits (L N : Nat) (pos : Nat → Int) (nd : Nat → Nat) (p : Int) (o : Nat → Nat) : Prop where
  range : ∀ i, i < N → o i < N
  apart : ∀ i j, i < j → j < N → o i ≠ o j
  key : ∀ i, i + 1 < N → keyLess (bst pos nd p L (o i)).1 (bst pos nd p L (o i)).2 (bst pos nd p L (o (i + 1))).1 (bst pos nd p L (o (i + 1))).2 = true

theorem keyLess_yes (da ja db jb : Int) (w : World) (h : keyLess da ja db jb = true) :
    Calls Tryd.prog 33 #[.int .u64 da, .int .i64 ja, .int .u64 db, .int .i64 jb] w fun e w' => e = .returned (.bool true) ∧ w' = w := by
  have := keyLess_any da ja db jb w
  rwa [h] at this

theorem wrap_dst (pos : Nat → Int) (p : Int) (j : Nat) : IntKind.u64.wrap (pos j - p) = dst pos p j := by
  rw [IntKind.wrap_u64]; rfl
theorem bst_take {pos : Nat → Int} {nd : Nat → Nat} {p : Int} {j x : Nat} (hx : x = nd j) (h : (bst pos nd p j x).2 < 0 ∨ IntKind.u64.wrap (pos j - p) < (bst pos nd p j x).1) (n : Nat) :
    bst pos nd p (j + 1) n = if n = x then (IntKind.u64.wrap (pos j - p), (j : Int)) else bst pos nd p j n := by
  rw [wrap_dst] at h ⊢
  simp only [bst]
  by_cases e : n = x
  · subst e; rw [if_pos ⟨hx.symm, h⟩, if_pos rfl]
  · rw [if_neg (fun g => e (by rw [hx, g.1])), if_neg e]
theorem bst_keep {pos : Nat → Int} {nd : Nat → Nat} {p : Int} {j x : Nat} (hx : x = nd j) (h : 0 ≤ (bst pos nd p j x).2 ∧ (bst pos nd p j x).1 ≤ IntKind.u64.wrap (pos j - p)) (n : Nat) :
    bst pos nd p (j + 1) n = bst pos nd p j n := by
  rw [wrap_dst] at h
  simp only [bst]
  refine if_neg (fun g => ?_)
  have e : n = x := by rw [hx, g.1]
  subst e
  omega

set_option maxRecDepth 100000 in
set_option maxHeartbeats 800000 in
theorem orderOK_yes (ao a b : Option Addr) (L N co ca cb : Nat) (pos : Nat → Int) (nd o : Nat → Nat) (p : Int) (w : World) (hL : L ≤ 1000000) (hN : N ≤ 65536)
    (ho : Rd w ao N (fun i => .int .i64 (o i : Int))) (ha : Rd w a L (fun i => .int .u64 (pos i))) (hb : Rd w b L (fun i => .int .i64 (nd i : Int)))
    (hnd : ∀ j, j < L → nd j < N) (hpb : ∀ j, j < L → 0 ≤ pos j ∧ pos j < 18446744073709551616) (hf : OrderFits L N pos nd p o) :
    Calls Tryd.prog 15 #[.slice ao N co, .slice a L ca, .slice b L cb, .int .i64 N, .int .u64 p] w fun e w' => e = .returned (.bool true) ∧ Below w.heap.size w w' := by
  have HO : Hid (Rd w ao N (fun i => .int .i64 (o i : Int))) := ho
  have HA : Hid (Rd w a L (fun i => .int .u64 (pos i))) := ha
  have HB : Hid (Rd w b L (fun i => .int .i64 (nd i : Int))) := hb
  have HND : Hid (∀ j, j < L → nd j < N) := hnd
  have HPB : Hid (∀ j, j < L → 0 ≤ pos j ∧ pos j < 18446744073709551616) := hpb
  have HF : Hid (OrderFits L N pos nd p o) := hf
  clear ho ha hb hnd hpb hf
  go_enter Tryd.func15, Tryd.ntmps15
  go_wp2_with (first | (at_make; refine wpList_mk _ rfl (.tmp 21) (.tmp 21) 22 rfl 25 (.int .u64 0) 8 Tryd.underlying22 Tryd.info25 rfl _ _ _ _ N rfl rfl rfl rfl (by omega) (by omega) ?_; intro w1 own1 hb1 hs1) | (at_make; refine wpList_mk _ rfl (.tmp 23) (.tmp 23) 23 rfl 3 (.int .i64 0) 8 Tryd.underlying23 Tryd.info3 rfl _ _ _ _ N rfl rfl rfl rfl (by omega) (by omega) ?_; intro w2 own2 hb2 hs2))
  have own1' := own1.below hb2 (by omega)
  have hB2 : Below w.heap.size w w2 := hb1.trans (hb2.mono (by omega))
  clear own1 hb1 hb2
  rw [hs1] at own2
  have hjb : w.heap.size < w.heap.size + 1 := by omega
  clear hs1 hs2
  generalize hDB : w.heap.size = db at *
  generalize db + 1 = jb at *
  have HDB : Hid (w.heap.size = db) := hDB
  clear hDB
  go_loopw [13] (fun i wr => ∃ k : Nat, k ≤ N ∧ i = .int .i64 k ∧ Below db w wr ∧ Own wr db N 25 (fun _ => .int .u64 0) ∧ Own wr jb N 3 (fun i => if i < k then .int .i64 (-1) else .int .i64 0)) (fun i _ => N - (intOf i).toNat)
  case atStart => exact ⟨0, Nat.zero_le _, rfl, hB2, own1', own2.congr (fun i _ => by simp)⟩
  case round =>
    obtain ⟨k, hk, rfl, hbl, hod, hoj⟩ := hrel
    by_cases hlt : k < N
    · have cj := hoj.at k hlt
      have fj := hoj.free k
      rw [if_neg (by omega)] at cj
      have hlt1 : (k : Int) < (N : Int) := by omega
      have HBL : Hid (Below db w wr) := hbl
      have HOD : Hid (Own wr db N 25 (fun _ => .int .u64 0)) := hod
      have HOJ : Hid (Own wr jb N 3 (fun i => if i < k then .int .i64 (-1) else .int .i64 0)) := hoj
      clear hbl hod hoj
      go_wp2
      go_roundw
      case rel => exact ⟨k + 1, by omega, by go_num, HBL.out.setCell (by show db ≤ jb; omega) _, HOD.out.set_other (by show db ≠ jb; omega) _, (HOJ.out.set k hlt _).congr (fun i hi => by
        by_cases e : i = k
        · subst e; simp
        · simp only [e, if_false]; by_cases h : i < k
          · simp [h, show i < k + 1 by omega]
          · simp [h, show ¬ i < k + 1 by omega])⟩
      case measure => simp [intOf]; omega
    · obtain rfl : k = N := by omega
      have hoj2 : Own wr jb k 3 (fun n => .int .i64 (bst pos nd p 0 n).2) := hoj.congr (fun i hi => by simp [hi, bst])
      have hod2 : Own wr db k 25 (fun n => .int .u64 (bst pos nd p 0 n).1) := hod
      clear hoj hod hB2 own1' own2
      go_wp2
      go_loopw [14] (fun i wr => ∃ j : Nat, j ≤ L ∧ i = .int .i64 j ∧ Below db w wr ∧ Own wr db k 25 (fun n => .int .u64 (bst pos nd p j n).1) ∧ Own wr jb k 3 (fun n => .int .i64 (bst pos nd p j n).2)) (fun i _ => L - (intOf i).toNat)
      case atStart => exact ⟨0, Nat.zero_le _, rfl, hbl, hod2, hoj2⟩
      case round =>
        clear hod2 hoj2 hbl
        obtain ⟨j, hj, rfl, hbl, hod, hoj⟩ := hrel
        by_cases hlt : j < L
        · obtain ⟨ba, oa, rfl, hca⟩ := HA.out.below (HDB.out ▸ hbl) (by omega)
          obtain ⟨bb, ob, rfl, hcb⟩ := HB.out.below (HDB.out ▸ hbl) (by omega)
          have c1 : wr.cell? ⟨ba, oa + j, none⟩ = some (.int .u64 (pos j)) := hca j hlt
          have c2 : wr.cell? ⟨bb, ob + j, none⟩ = some (.int .i64 (nd j : Int)) := hcb j hlt
          have hxN := HND.out j hlt
          obtain ⟨x, hx⟩ : ∃ x, x = nd j := ⟨_, rfl⟩
          have HX : Hid (x = nd j) := hx
          rw [← hx] at c2 hxN
          have hxI : (x : Int) < (k : Int) := by omega
          have hlt1 : (j : Int) < (L : Int) := by omega
          have cd : wr.cell? ⟨db, x, none⟩ = some (.int .u64 (bst pos nd p j x).1) := hod.at x hxN
          have cj : wr.cell? ⟨jb, x, none⟩ = some (.int .i64 (bst pos nd p j x).2) := hoj.at x hxN
          have fd := hod.free x
          have fj := hoj.free x
          have HBL : Hid (Below db w wr) := hbl
          have HOD : Hid (Own wr db k 25 (fun n => .int .u64 (bst pos nd p j n).1)) := hod
          have HOJ : Hid (Own wr jb k 3 (fun n => .int .i64 (bst pos nd p j n).2)) := hoj
          have hpp := HPB.out j hlt
          clear hbl hod hoj hca hcb hx
          go_wp2
          all_goals go_roundw
          all_goals first
            | (case measure => simp [intOf]; omega)
            | skip
          · have hc : (bst pos nd p j x).snd < 0 ∨ IntKind.u64.wrap (pos j - p) < (bst pos nd p j x).fst := by assumption
            refine ⟨j + 1, by omega, by go_num, (HBL.out.setCell (Nat.le_refl _) _).setCell (by show db ≤ jb; omega) _, ((HOD.out.set x hxN _).set_other (by show db ≠ jb; omega) _).congr (fun i hi => ?_), ((HOJ.out.set_other (by show jb ≠ db; omega) _).set x hxN _).congr (fun i hi => ?_)⟩
            · rw [bst_take HX.out hc i]; by_cases e : i = x <;> simp [e]
            · rw [bst_take HX.out hc i]; by_cases e : i = x <;> simp [e]
          · have hc : 0 ≤ (bst pos nd p j x).2 ∧ (bst pos nd p j x).1 ≤ IntKind.u64.wrap (pos j - p) := by assumption
            exact ⟨j + 1, by omega, by go_num, HBL.out, HOD.out.congr (fun i hi => by rw [bst_keep HX.out hc i]), HOJ.out.congr (fun i hi => by rw [bst_keep HX.out hc i])⟩
          · have hc : (bst pos nd p j x).snd < 0 ∨ IntKind.u64.wrap (pos j - p) < (bst pos nd p j x).fst := by left; omega
            refine ⟨j + 1, by omega, by go_num, (HBL.out.setCell (Nat.le_refl _) _).setCell (by show db ≤ jb; omega) _, ((HOD.out.set x hxN _).set_other (by show db ≠ jb; omega) _).congr (fun i hi => ?_), ((HOJ.out.set_other (by show jb ≠ db; omega) _).set x hxN _).congr (fun i hi => ?_)⟩
            · rw [bst_take HX.out hc i]; by_cases e : i = x <;> simp [e]
            · rw [bst_take HX.out hc i]; by_cases e : i = x <;> simp [e]
        · obtain rfl : j = L := by omega
          go_wp2_with (at_make; refine wpList_mk _ rfl _ _ 35 rfl 4 (.bool false) 1 Tryd.underlying35 Tryd.info4 rfl _ _ _ _ k rfl rfl rfl rfl (by omega) (by omega) ?_; intro w4 own4 hb4 hs4)
          have hdl := hod.lt
          have hjl := hoj.lt
          have hod4 := hod.below hb4 hdl
          have hoj4 := hoj.below hb4 hjl
          have hbl4 : Below db w w4 := hbl.trans (hb4.mono (by omega))
          clear hod hoj hbl hb4 hs4
          generalize wr.heap.size = sb at *
          go_loopw [18] (fun i wr => ∃ t : Nat, t ≤ k ∧ i = .int .i64 t ∧ Below db w wr ∧ Own wr db k 25 (fun n => .int .u64 (bst pos nd p j n).1) ∧ Own wr jb k 3 (fun n => .int .i64 (bst pos nd p j n).2) ∧ Own wr sb k 4 (fun n => .bool (seenB (fun i => (o i : Int)) t n))) (fun i _ => k - (intOf i).toNat)
          case atStart => exact ⟨0, Nat.zero_le _, rfl, hbl4, hod4, hoj4, own4⟩
          case round =>
            clear hod4 hoj4 hbl4 own4
            obtain ⟨t, ht, rfl, hbl, hod, hoj, hos⟩ := hrel
            by_cases hlt : t < k
            · obtain ⟨bo, oo, rfl, hco⟩ := HO.out.below (HDB.out ▸ hbl) (by omega)
              have c1 : wr.cell? ⟨bo, oo + t, none⟩ = some (.int .i64 (o t : Int)) := hco t hlt
              have hxN := HF.out.range t hlt
              have hsn : seenB (fun i => (o i : Int)) t (o t) = false := seenB_no t (fun i hi => by have := HF.out.apart i t hi hlt; omega)
              have hnew := (seen_new (node := fun i => (o i : Int)) (k := t) (x := o t) (N := k) rfl hsn hxN).1
              have HNEW : Hid (∀ i, seenB (fun i => (o i : Int)) (t + 1) i = if i = o t then true else seenB (fun i => (o i : Int)) t i) := hnew
              have c2 : wr.cell? ⟨sb, o t, none⟩ = some (.bool false) := by rw [hos.at (o t) hxN, hsn]
              have f2 := hos.free (o t)
              have hxI : (o t : Int) < (k : Int) := by omega
              have hlt1 : (t : Int) < (k : Int) := by omega
              have g1 : decide ((o t : Int) < 0) = false := by simp
              have g2 : decide (k ≤ o t) = false := by simp; omega
              have HBL : Hid (Below db w wr) := hbl
              have HOD : Hid (Own wr db k 25 (fun n => .int .u64 (bst pos nd p j n).1)) := hod
              have HOJ : Hid (Own wr jb k 3 (fun n => .int .i64 (bst pos nd p j n).2)) := hoj
              have HOS : Hid (Own wr sb k 4 (fun n => .bool (seenB (fun i => (o i : Int)) t n))) := hos
              have d1 : wr.cell? ⟨db, o t, none⟩ = some (.int .u64 (bst pos nd p j (o t)).1) := hod.at (o t) hxN
              have d2 : wr.cell? ⟨jb, o t, none⟩ = some (.int .i64 (bst pos nd p j (o t)).2) := hoj.at (o t) hxN
              have n1 : ¬ db = sb := by omega
              have n2 : ¬ jb = sb := by omega
              have n3 : ¬ bo = sb := by have := HO.out.lt (by omega); have := HDB.out; omega
              clear hsn hnew
              by_cases h0 : (t : Int) < 1
              · clear hbl hod hoj hos hco d1 d2
                go_wp2
                go_roundw
                case rel => exact ⟨t + 1, by omega, by go_num, HBL.out.setCell (by show db ≤ sb; omega) _, HOD.out.set_other (by show db ≠ sb; omega) _, HOJ.out.set_other (by show jb ≠ sb; omega) _, (HOS.out.set (o t) hxN (.bool true)).congr (fun i hi => by
                  rw [HNEW.out i]; by_cases e : i = o t <;> simp [e])⟩
                case measure => simp [intOf]; omega
              · obtain ⟨t, rfl⟩ : ∃ u, t = u + 1 := ⟨t - 1, by omega⟩
                clear h0
                have c3 : wr.cell? ⟨bo, oo + t, none⟩ = some (.int .i64 (o t : Int)) := hco t (by omega)
                have hyN := HF.out.range t (by omega)
                have hyI : (o t : Int) < (k : Int) := by omega
                have hlt2 : (t : Int) < (k : Int) := by omega
                have d3 : wr.cell? ⟨db, o t, none⟩ = some (.int .u64 (bst pos nd p j (o t)).1) := hod.at (o t) hyN
                have d4 : wr.cell? ⟨jb, o t, none⟩ = some (.int .i64 (bst pos nd p j (o t)).2) := hoj.at (o t) hyN
                have HKEY := HF.out.key t (by omega)
                have HKL : Hid (∀ w, Calls Tryd.prog 33 #[.int .u64 (bst pos nd p j (o t)).1, .int .i64 (bst pos nd p j (o t)).2, .int .u64 (bst pos nd p j (o (t + 1))).1, .int .i64 (bst pos nd p j (o (t + 1))).2] w fun e w' => e = .returned (.bool true) ∧ w' = w) := fun w => keyLess_yes _ _ _ _ w HKEY
                clear hbl hod hoj hos hco HKEY
                generalize bst pos nd p j (o t) = B1 at *
                generalize bst pos nd p j (o (t + 1)) = B2 at *
                go_wp2_with fail
                go_quiet ((go_at_call 33; exact Calls.quiet_of_same (HKL.out _)))
                go_wp2
                go_roundw
                case rel => exact ⟨t + 1 + 1, by omega, by go_num, below_drewN (HBL.out.setCell (by show db ≤ sb; omega) _) _, (HOD.out.set_other (by show db ≠ sb; omega) _), (HOJ.out.set_other (by show jb ≠ sb; omega) _), ((HOS.out.set (o (t + 1)) hxN (.bool true)).congr (fun i hi => by
                  rw [HNEW.out i]; by_cases e : i = o (t + 1) <;> simp [e]))⟩
                case measure => simp [intOf]; omega
            · go_wp2
              go_ret
              exact ⟨rfl, HDB.out ▸ hbl⟩
end Go.Proofs.Qxb6608942aDoor
