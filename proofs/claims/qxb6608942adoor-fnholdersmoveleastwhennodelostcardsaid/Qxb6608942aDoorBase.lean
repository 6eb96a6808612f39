import Derived.Test.Qxb6608942aDoorLeaf
namespace Go.Proofs.Qxb6608942aDoor
open Go.RowKit

/-- A slice that begins at a reads, element by element, as f says, n elements. -/
def Rd (w : World) (a : Option Addr) (n : Nat) (f : Nat → Value) : Prop :=
  0 < n → ∃ b off, a = some ⟨b, off, none⟩ ∧ ∀ i, i < n → w.cell? ⟨b, off + i, none⟩ = some (f i)

theorem Rd.below {w w' : World} {a : Option Addr} {n : Nat} {f : Nat → Value} (h : Rd w a n f) (hb : Below w.heap.size w w') : Rd w' a n f := fun hn => by
  obtain ⟨b, off, ha, hc⟩ := h hn
  refine ⟨b, off, ha, fun i hi => ?_⟩
  have := hc i hi
  rw [hb.cell (p := ⟨b, off + i, none⟩) (World.block_lt_of_cell? _ _ this)]
  exact this

theorem Rd.belowN {w w' : World} {a : Option Addr} {n : Nat} {f : Nat → Value} {B : Nat} (h : Rd w a n f) (hb : Below B w w') (hB : ∀ b off, a = some ⟨b, off, none⟩ → b < B) : Rd w' a n f := fun hn => by
  obtain ⟨b, off, ha, hc⟩ := h hn
  refine ⟨b, off, ha, fun i hi => ?_⟩
  rw [hb.cell (p := ⟨b, off + i, none⟩) (hB b off ha)]
  exact hc i hi

theorem Rd.congr {w : World} {a : Option Addr} {n : Nat} {f g : Nat → Value} (h : Rd w a n f) (e : ∀ i, i < n → f i = g i) : Rd w a n g := fun hn => by
  obtain ⟨b, off, ha, hc⟩ := h hn
  exact ⟨b, off, ha, fun i hi => (hc i hi).trans (by rw [e i hi])⟩

theorem Rd.lt {w : World} {b off n : Nat} {f : Nat → Value} (h : Rd w (some ⟨b, off, none⟩) n f) (hn : 0 < n) : b < w.heap.size := by
  obtain ⟨b', off', ha, hc⟩ := h hn
  cases ha
  exact World.block_lt_of_cell? _ _ (hc 0 hn)

theorem Rd.at {w : World} {b off n : Nat} {f : Nat → Value} (h : Rd w (some ⟨b, off, none⟩) n f) (i : Nat) (hi : i < n) : w.cell? ⟨b, off + i, none⟩ = some (f i) := by
  obtain ⟨b', off', ha, hc⟩ := h (by omega)
  cases ha
  exact hc i hi

/-- A row of the call's own: a block of n cells of type t, none of them frozen, that hold what f says. -/
def Own (w : World) (b n : Nat) (t : TypeId) (f : Nat → Value) : Prop :=
  ∃ cur : Array Value, w.heap[b]? = some (.cells cur t (0, 0)) ∧ cur.size = n ∧ ∀ i, i < n → cur[i]? = some (f i)

theorem Own.lt {w : World} {b n : Nat} {t : TypeId} {f : Nat → Value} (h : Own w b n t f) : b < w.heap.size := by
  obtain ⟨cur, hh, _⟩ := h
  exact lt_of_block hh
theorem Own.at {w : World} {b n : Nat} {t : TypeId} {f : Nat → Value} (h : Own w b n t f) (i : Nat) (hi : i < n) : w.cell? ⟨b, i, none⟩ = some (f i) := by
  obtain ⟨cur, hh, hs, hc⟩ := h
  simp [World.cell?, hh, hc i hi]
theorem Own.free {w : World} {b n : Nat} {t : TypeId} {f : Nat → Value} (h : Own w b n t f) (i : Nat) : w.frozen? ⟨b, i, none⟩ = false := by
  obtain ⟨cur, hh, hs, hc⟩ := h
  simp [World.frozen?, hh]
theorem Own.rd {w : World} {b n : Nat} {t : TypeId} {f : Nat → Value} (h : Own w b n t f) : Rd w (some ⟨b, 0, none⟩) n f := fun _ =>
  ⟨b, 0, rfl, fun i hi => by rw [Nat.zero_add]; exact h.at i hi⟩
theorem Own.congr {w : World} {b n : Nat} {t : TypeId} {f g : Nat → Value} (h : Own w b n t f) (e : ∀ i, i < n → f i = g i) : Own w b n t g := by
  obtain ⟨cur, hh, hs, hc⟩ := h
  exact ⟨cur, hh, hs, fun i hi => (hc i hi).trans (by rw [e i hi])⟩
theorem Own.of_block {w w' : World} {b n : Nat} {t : TypeId} {f : Nat → Value} (h : Own w b n t f) (e : w'.heap[b]? = w.heap[b]?) : Own w' b n t f := by
  obtain ⟨cur, hh, r⟩ := h
  exact ⟨cur, e.trans hh, r⟩
theorem Own.below {w w' : World} {b n : Nat} {t : TypeId} {f : Nat → Value} {B : Nat} (h : Own w b n t f) (hb : Below B w w') (hB : b < B) : Own w' b n t f :=
  h.of_block (hb.block b hB)
theorem Own.set {w : World} {b n : Nat} {t : TypeId} {f : Nat → Value} (h : Own w b n t f) (k : Nat) (hk : k < n) (u : Value) :
    Own (w.setCell ⟨b, k, none⟩ u) b n t (fun i => if i = k then u else f i) := by
  obtain ⟨cur, hh, hs, hc⟩ := h
  have hlt := lt_of_block hh
  have h' : w.heap[b] = .cells cur t (0, 0) := by simpa [Array.getElem?_eq_getElem hlt] using hh
  refine ⟨cur.setIfInBounds k u, ?_, by simpa using hs, fun i hi => ?_⟩
  · show (w.heap.modify b _)[b]? = _
    rw [Array.getElem?_eq_getElem (by simpa using hlt), Array.getElem_modify_self, h']
    rfl
  · rw [Array.getElem?_setIfInBounds]
    by_cases e : k = i
    · subst e; simp [hs, hk]
    · rw [if_neg e, hc i hi]; simp [show ¬ i = k from fun h => e h.symm]
theorem Own.set_other {w : World} {b n : Nat} {t : TypeId} {f : Nat → Value} (h : Own w b n t f) {a : Addr} (ha : b ≠ a.block) (u : Value) : Own (w.setCell a u) b n t f :=
  h.of_block (Below.heap_setCell _ _ _ _ ha)
theorem Own.alloc {w : World} {b n : Nat} {t : TypeId} {f : Nat → Value} (h : Own w b n t f) (o : Obj) : Own (w.alloc o) b n t f :=
  h.of_block (Below.heap_alloc _ _ _ h.lt)
theorem Own.drew {w : World} {b n : Nat} {t : TypeId} {f : Nat → Value} (h : Own w b n t f) : Own w.drew b n t f := h

/-- 'make([]T, n)' for elements of one cell: a law for the walk. -/
theorem wpList_mk {P : Program} (w : World) {ops : Array Oper} {rest : List Oper} {o : Oper} {a : Act} {Q : Exit → Act → World → Prop}
    (hg : o.guard = none) (l c : Operand) (t : TypeId) (hop : o.op = Op.makeSlice t l c)
    (e : TypeId) (z : Value) (bytes : Nat) (h1 : P.underlying t = some (.slice e)) (h2 : (P.info? e).map (fun i => (i.zero, i.size, i.bytes)) = some (some z, 1, bytes)) (hz : z.cells = #[z])
    (kl kc : IntKind) (L C : Int) (n : Nat) (hl : a.eval l = .int kl L) (hc : a.eval c = .int kc C) (hL : L = (n : Int)) (hC : C = (n : Int)) (b2 : bytes * n ≤ 281474976710656) (b3 : n ≤ 1000000000)
    (hK : ∀ w', Own w' w.heap.size n e (fun _ => z) → Below w.heap.size w w' → w'.heap.size = w.heap.size + 1 → wpList P ops Q rest (a.put o.dst (.slice (some ⟨w.heap.size, 0, none⟩) n n)) w') :
    wpList P ops Q (o :: rest) a w := by
  obtain ⟨i, hi, hz0, hz1, hz2⟩ := info_parts h2
  refine wpList_plain hg fun K hK' => ?_
  have hrun := run_make (P := P) w t e i z h1 hi hz0 kl kc n n (by omega) (Int.le_refl _) (by
    rw [hz2]
    have h : ((bytes * n : Nat) : Int) ≤ 281474976710656 := by omega
    rwa [Int.natCast_mul] at h) (by omega)
  subst hL
  subst hC
  unfold Oper.wp
  simp [execOp, hop, hl, hc, hrun, Result.andThen]
  refine hK' _ _ (hK _ ?_ ((Below.refl _ _).alloc (Nat.le_refl _) _) (World.size_alloc _ _))
  rw [hz1, hz, Nat.mul_one]
  refine ⟨madeCells #[z] n, heap_alloc_new w _, size_madeCells _ _, fun j hj => ?_⟩
  simp [madeCells, hj, Nat.mod_one]

theorem Tryd.info3 : (Tryd.prog.info? 3).map (fun i => (i.zero, i.size, i.bytes)) = some (some (.int .i64 0), 1, 8) := by kernel_rfl
theorem Tryd.info4 : (Tryd.prog.info? 4).map (fun i => (i.zero, i.size, i.bytes)) = some (some (.bool false), 1, 1) := by kernel_rfl
theorem Tryd.info25 : (Tryd.prog.info? 25).map (fun i => (i.zero, i.size, i.bytes)) = some (some (.int .u64 0), 1, 8) := by kernel_rfl
theorem Tryd.size3 : (Tryd.prog.info? 3).map (·.size) = some 1 := by kernel_rfl
theorem Tryd.size4 : (Tryd.prog.info? 4).map (·.size) = some 1 := by kernel_rfl
theorem Tryd.size25 : (Tryd.prog.info? 25).map (·.size) = some 1 := by kernel_rfl
end Go.Proofs.Qxb6608942aDoor
