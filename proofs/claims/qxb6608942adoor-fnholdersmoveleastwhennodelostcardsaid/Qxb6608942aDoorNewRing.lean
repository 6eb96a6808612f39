import Derived.Test.Qxb6608942aDoorSearch
namespace Go.Proofs.Qxb6608942aDoor
open Go.RowKit

/-- 'make([]T, n)' for elements of two cells. -/
theorem wpList_mk2 {P : Program} (w : World) {ops : Array Oper} {rest : List Oper} {o : Oper} {a : Act} {Q : Exit → Act → World → Prop}
    (hg : o.guard = none) (l c : Operand) (t : TypeId) (hop : o.op = Op.makeSlice t l c)
    (e : TypeId) (z : Value) (bytes : Nat) (h1 : P.underlying t = some (.slice e)) (h2 : (P.info? e).map (fun i => (i.zero, i.size, i.bytes)) = some (some z, 2, bytes))
    (kl kc : IntKind) (L C : Int) (n : Nat) (hl : a.eval l = .int kl L) (hc : a.eval c = .int kc C) (hL : L = (n : Int)) (hC : C = (n : Int)) (b2 : bytes * n ≤ 281474976710656) (b3 : n ≤ 1000000000)
    (hK : ∀ w', (∃ f, Own w' w.heap.size (n * 2) e f) → Below w.heap.size w w' → w'.heap.size = w.heap.size + 1 → wpList P ops Q rest (a.put o.dst (.slice (some ⟨w.heap.size, 0, none⟩) n n)) w') :
    wpList P ops Q (o :: rest) a w := by
  obtain ⟨i, hi, hz0, hz1, hz2⟩ := info_parts h2
  refine wpList_plain hg fun K hK' => ?_
  have hrun := run_make (P := P) w t e i z h1 hi hz0 kl kc n n (by omega) (Int.le_refl _) (by
    rw [hz2]
    have h : ((bytes * n : Nat) : Int) ≤ 281474976710656 := by omega
    rwa [Int.natCast_mul] at h) (by omega)
  subst hL
  subst hC
  unfold Oper.wp
  simp [execOp, hop, hl, hc, hrun, Result.andThen]
  refine hK' _ _ (hK _ ?_ ((Below.refl _ _).alloc (Nat.le_refl _) _) (World.size_alloc _ _))
  rw [hz1]
  refine ⟨fun j => (madeCells z.cells (n * 2)).getD j (.bool false), madeCells z.cells (n * 2), heap_alloc_new w _, size_madeCells _ _, fun j hj => ?_⟩
  have : j < (madeCells z.cells (n * 2)).size := by rw [size_madeCells]; exact hj
  simp [Array.getD, this]

theorem Tryd.info49 : (Tryd.prog.info? 49).map (fun i => (i.zero, i.size, i.bytes)) = some (some (.agg #[.int .u64 0, .int .i64 0]), 2, 16) := by kernel_rfl

set_option maxHeartbeats 400000 in
theorem newRing_any (a b : Option Addr) (L ca cb N R : Nat) (pos node : Nat → Int) (w : World) (hL : L ≤ 1000000)
    (ha : Rd w a L (fun i => .int .u64 (pos i))) (hb : Rd w b L (fun i => .int .i64 (node i))) :
    Calls Tryd.prog 13 #[.slice a L ca, .slice b L cb, .int .i64 N, .int .i64 R] w fun e w' =>
      ∃ rb pb, e = .returned (.pointer (some ⟨rb, 0, none⟩)) ∧ RingAt w' rb pb L N R pos node ∧ rb < w'.heap.size ∧ pb < w'.heap.size ∧ Below w.heap.size w w' := by
  have HA : Hid (Rd w a L (fun i => .int .u64 (pos i))) := ha
  have HB : Hid (Rd w b L (fun i => .int .i64 (node i))) := hb
  clear ha hb
  go_enter Tryd.func13, Tryd.ntmps13
  go_wp2_with (at_make; refine wpList_mk2 _ rfl _ _ 47 rfl 49 _ 16 Tryd.underlying47 Tryd.info49 _ _ _ _ L rfl rfl rfl rfl (by omega) (by omega) ?_; intro w1 hown hb1 hs1; obtain ⟨f0, hown⟩ := hown)
  generalize hPB : w.heap.size = pb at *
  go_loopw [10] (fun i wr => ∃ k : Nat, k ≤ L ∧ i = .int .i64 k ∧ Below pb w wr ∧ ∃ f, Own wr pb (L * 2) 49 f ∧ Hid (∀ i, i < k → f (i * 2) = .int .u64 (pos i) ∧ f (i * 2 + 1) = .int .i64 (node i))) (fun i _ => L - (intOf i).toNat)
  case atStart => exact ⟨0, Nat.zero_le _, rfl, hb1, f0, hown, fun i hi => by omega⟩
  case round =>
    obtain ⟨k, hk, rfl, hbl, f, hof, HF⟩ := hrel
    by_cases hlt : k < L
    · obtain ⟨ba, oa, rfl, hca⟩ := HA.out.below (hPB ▸ hbl) (by omega)
      obtain ⟨bb, ob, rfl, hcb⟩ := HB.out.below (hPB ▸ hbl) (by omega)
      have c1 := hca k hlt
      have c2 := hcb k hlt
      have n1 : ¬ ba = pb := by have := HA.out.lt (by omega); omega
      have n2 : ¬ bb = pb := by have := HB.out.lt (by omega); omega
      clear hca hcb
      have e1 := hof.at (k * 2) (by omega)
      have e2 := hof.at (k * 2 + 1) (by omega)
      have g1 := hof.free (k * 2)
      have g2 := hof.free (k * 2 + 1)
      have HBL : Hid (Below pb w wr) := hbl
      have HO : Hid (Own wr pb (L * 2) 49 f) := hof
      have HPB : Hid (w.heap.size = pb) := hPB
      clear hbl hof hPB
      have hlt' : (k : Int) < (L : Int) := by omega
      go_wp2
      go_region
      all_goals go_wp2
      go_roundw
      case rel =>
        have O2 := ((HO.out.set (k * 2) (by omega) (.int .u64 (pos k))).set (k * 2 + 1) (by omega) (.int .i64 (node k))).drew
        refine ⟨k + 1, by omega, by go_num, ((HBL.out.setCell (Nat.le_refl _) _).setCell (Nat.le_refl _) _).drew, _, O2, fun i hi => ?_⟩
        by_cases e : i = k
        · subst e; simp
        · have h3 := HF.out i (by omega)
          simp only [show ¬ i * 2 = k * 2 + 1 by omega, show ¬ i * 2 = k * 2 by omega, show ¬ i * 2 + 1 = k * 2 + 1 by omega, show ¬ i * 2 + 1 = k * 2 by omega, if_false]
          exact h3
      case measure => simp [intOf]; omega
    · obtain rfl : k = L := by omega
      have HBL : Hid (Below pb w wr) := hbl
      have HO : Hid (Own wr pb (k * 2) 49 f) := hof
      have HPB : Hid (w.heap.size = pb) := hPB
      clear hbl hof hPB hb1 hown hs1
      go_wp2
      go_ret
      have hpl := HO.out.lt
      have hO := HO.out.alloc (.cells #[Value.slice (some ⟨pb, 0, none⟩) k k, Value.int IntKind.i64 ↑N, Value.int IntKind.i64 ↑R] 51)
      refine ⟨wr.heap.size, pb, rfl, ⟨?_, ?_, ?_, fun i hi => ?_, fun i hi => ?_⟩, by simp, by simp; omega, (by rw [HPB.out]; exact HBL.out.alloc (by omega) _)⟩
      · rw [World.cell?_alloc_at _ _ _ _ (by simp)]; rfl
      · rw [World.cell?_alloc_at _ _ _ _ (by simp)]; rfl
      · rw [World.cell?_alloc_at _ _ _ _ (by simp)]; rfl
      · rw [hO.at _ (by omega), (HF.out i hi).1]
      · rw [hO.at _ (by omega), (HF.out i hi).2]
end Go.Proofs.Qxb6608942aDoor
