import Derived.Test.Qxb6608942aDoorParse
import Derived.Test.Qxb6608942aDoorSearch
import Derived.Test.Qxb6608942aDoorPlainB
namespace Go.Proofs.Qxb6608942aDoor
open Go.RowKit

def isT3 (w : World) (k : Nat) : Prop := ∃ cs fr, w.heap[k]? = some (.cells cs 3 fr)

/-- All that was there is as it was, but for block ob, and rows of ints from base on. -/
structure Same (base ob : Nat) (w w' : World) : Prop where
  os : w'.os = w.os
  tape : w'.tape = w.tape
  output : w'.output = w.output
  size : w.heap.size ≤ w'.heap.size
  block : ∀ k, k < w.heap.size → k ≠ ob → (k < base ∨ ¬ isT3 w k) → w'.heap[k]? = w.heap[k]?

theorem Same.refl (base ob : Nat) (w : World) : Same base ob w w := ⟨rfl, rfl, rfl, Nat.le_refl _, fun _ _ _ _ => rfl⟩
theorem Same.trans {base ob : Nat} {a b c : World} (h : Same base ob a b) (k : Same base ob b c) : Same base ob a c :=
  ⟨k.os.trans h.os, k.tape.trans h.tape, k.output.trans h.output, Nat.le_trans h.size k.size, fun i hi ho ht => by
    have e := h.block i hi ho ht
    have ht' : i < base ∨ ¬ isT3 b i := by
      rcases ht with ht | hn
      · exact .inl ht
      · exact .inr (by rintro ⟨cs, fr, hc⟩; exact hn ⟨cs, fr, e ▸ hc⟩)
    exact (k.block i (Nat.lt_of_lt_of_le hi h.size) ho ht').trans e⟩
theorem Same.of_below {base ob : Nat} {w w' : World} (h : Below w.heap.size w w') : Same base ob w w' := ⟨h.os, h.tape, h.output, h.size, fun k hk _ _ => h.block k hk⟩
theorem Same.drewN {base ob : Nat} {w w' : World} (h : Same base ob w w') (q : Nat) : Same base ob w (w'.drewN q) := ⟨h.os, h.tape, h.output, h.size, h.block⟩
theorem Same.below {base ob : Nat} {w w' : World} (h : Same base ob w w') (hb : base ≤ w.heap.size) (ho : base ≤ ob) : Below base w w' :=
  ⟨h.os, h.tape, h.output, h.size, fun k hk => h.block k (by omega) (by omega) (.inl hk)⟩

/-- The variable at block ob holds a slice that owns the numbers of l. -/
def InvRow (ob base : Nat) (l : List Nat) (w : World) : Prop :=
  ∃ v, w.heap[ob]? = some (.cells #[v] 23 (0, 0)) ∧ w.ownsRow base 3 1 v l.length (l.map (fun x : Nat => Value.int .i64 (x : Int)))

theorem InvRow.of_blocks {ob base : Nat} {l : List Nat} {w w' : World} (h : InvRow ob base l w) (h1 : w'.heap[ob]? = w.heap[ob]?) (h2 : ∀ k, isT3 w k → w'.heap[k]? = w.heap[k]?) : InvRow ob base l w' := by
  obtain ⟨v, hv, hl, ho⟩ := h
  refine ⟨v, h1.trans hv, hl, ?_⟩
  rcases ho with ho | ⟨g, cap, cur, e, hb, hh, r⟩
  · exact .inl ho
  · exact .inr ⟨g, cap, cur, e, hb, (h2 g ⟨_, _, hh⟩).trans hh, r⟩

/-- What a visitor of the ring's walk does. -/
def Visits (g : Nat) (caps : Array Value) (base ob : Nat) (w0 : World) (D : List Nat) (row : List Nat → List Nat) (cont : List Nat → Bool) : Prop :=
  ∀ (acc : List Nat) (x : Nat) (w : World), acc ++ [x] <+: D → Same base ob w0 w → InvRow ob base (row acc) w →
    Calls Tryd.prog g (#[.int .i64 (x : Int)] ++ caps) w fun e w' => e = .returned (.bool (cont (acc ++ [x]))) ∧ InvRow ob base (row (acc ++ [x])) w' ∧ Same base ob w w'

/-- What the walk's loop keeps: l is what has been met. -/
structure WInv (w : World) (base ob xb mb rb N : Nat) (row : List Nat → List Nat) (l : List Nat) (wr : World) : Prop where
  same : Same base ob w wr
  box : wr.heap[xb]? = some (.cells #[.pointer (some ⟨rb, 0, none⟩)] 29 (0, 0))
  met : Own wr mb N 4 (fun i => .bool (decide (i ∈ l)))
  inv : InvRow ob base (row l) wr

theorem Own.notT3 {w : World} {b n : Nat} {t : TypeId} {f : Nat → Value} (h : Own w b n t f) (ht : t ≠ 3) : ¬ isT3 w b := by
  obtain ⟨cur, hh, _⟩ := h
  rintro ⟨cs, fr, hc⟩
  rw [hh] at hc
  simp only [Option.some.injEq, Obj.cells.injEq] at hc
  exact ht hc.2.1

theorem InvRow.drewN {ob base : Nat} {l : List Nat} {w : World} (h : InvRow ob base l w) (q : Nat) : InvRow ob base l (w.drewN q) := h
theorem Own.drewN {w : World} {b n : Nat} {t : TypeId} {f : Nat → Value} (h : Own w b n t f) (q : Nat) : Own (w.drewN q) b n t f := h
theorem WInv.drewN {w : World} {base ob xb mb rb N : Nat} {row : List Nat → List Nat} {l : List Nat} {wr : World} (h : WInv w base ob xb mb rb N row l wr) (q : Nat) : WInv w base ob xb mb rb N row l (wr.drewN q) :=
  ⟨h.same.drewN q, h.box, h.met.drewN q, h.inv.drewN q⟩

/-- The mark set: all is ready for the visit. -/
theorem WInv.mark {w : World} {base ob xb mb rb N : Nat} {row : List Nat → List Nat} {l : List Nat} {wr : World} (h : WInv w base ob xb mb rb N row l wr) (x : Nat) (hx : x < N)
    (hmb : w.heap.size ≤ mb) (hob : ob < w.heap.size) (hxm : xb ≠ mb) :
    Same base ob w (wr.setCell ⟨mb, x, none⟩ (.bool true)) ∧ (wr.setCell ⟨mb, x, none⟩ (.bool true)).heap[xb]? = some (.cells #[.pointer (some ⟨rb, 0, none⟩)] 29 (0, 0)) ∧
      Own (wr.setCell ⟨mb, x, none⟩ (.bool true)) mb N 4 (fun i => .bool (decide (i ∈ l ++ [x]))) ∧ InvRow ob base (row l) (wr.setCell ⟨mb, x, none⟩ (.bool true)) := by
  refine ⟨⟨h.same.os, h.same.tape, h.same.output, by rw [World.size_setCell]; exact h.same.size, fun k hk h1 h2 => ?_⟩, ?_, ?_, ?_⟩
  · rw [Below.heap_setCell _ _ _ _ (by show k ≠ mb; omega)]; exact h.same.block k hk h1 h2
  · rw [Below.heap_setCell _ _ _ _ (by exact hxm)]; exact h.box
  · refine (h.met.set x hx (.bool true)).congr fun i hi => ?_
    by_cases e : i = x
    · subst e; simp
    · simp [e]
  · refine h.inv.of_blocks (Below.heap_setCell _ _ _ _ (by show ob ≠ mb; omega)) fun k hk => Below.heap_setCell _ _ _ _ (fun e => ?_)
    have : k = mb := e
    subst this
    exact h.met.notT3 (by decide) hk

theorem WInv.visited {w : World} {base ob xb mb rb N : Nat} {row : List Nat → List Nat} {l : List Nat} {wa wb : World} (hmb : ob < mb) (hxo : ob ≠ xb)
    (h : Same base ob w wa ∧ wa.heap[xb]? = some (.cells #[.pointer (some ⟨rb, 0, none⟩)] 29 (0, 0)) ∧ Own wa mb N 4 (fun i => .bool (decide (i ∈ l))))
    (hi : InvRow ob base (row l) wb) (hs : Same base ob wa wb) : WInv w base ob xb mb rb N row l wb := by
  obtain ⟨h1, h2, h3⟩ := h
  refine ⟨h1.trans hs, ?_, ?_, hi⟩
  · rw [hs.block xb (lt_of_block h2) (fun e => hxo e.symm) (.inr ?_)]
    · exact h2
    · rintro ⟨cs, fr, hc⟩
      rw [h2] at hc
      simp at hc
  · exact h3.of_block (hs.block mb h3.lt (by omega) (.inr (h3.notT3 (by decide))))

theorem size_head {s : ByteArray} (h : 16 ≤ s.size) : (s.extract 0 16).size = 16 := by
  rw [ByteArray.size_extract]; omega
theorem byt_head {s : ByteArray} (k : Nat) (hk : k < 16) : byt (s.extract 0 16) k = byt s k := by
  unfold byt
  have : (s.extract 0 16).data = s.data.extract 0 16 := by simp [ByteArray.data_extract]
  rw [this]
  have hd : s.data.size = s.size := rfl
  simp [List.getD, hk]
theorem hex_head {s : ByteArray} (hx : hexTo s 16) : hexTo (s.extract 0 16) 16 := fun i hi => by rw [byt_head i hi]; exact hx i hi
theorem pv_head {s : ByteArray} : ∀ k, k ≤ 16 → pvTo (s.extract 0 16) k = pvTo s k
  | 0, _ => rfl
  | k + 1, hk => by simp only [pvTo]; rw [pv_head k (by omega), byt_head k (by omega)]

set_option maxHeartbeats 400000 in
theorem walk_any (g : Nat) (caps : Array Value) (base ob : Nat) (s : ByteArray) (rb pb L N R : Nat) (pos : Nat → Int) (nd : Nat → Nat) (row : List Nat → List Nat) (cont : List Nat → Bool) (w : World)
    (eg : ∀ args w, (callFunc g args).run Tryd.prog w = .ok (.enter g args) w)
    (hs : s.size ≤ maxLen) (h16 : 16 ≤ s.size) (hx : hexTo s 16)
    (hr : RingAt w rb pb L N R pos (fun i => (nd i : Int))) (hrb : rb < base) (hpb : pb < base) (hbase : base ≤ ob) (hob : ob < w.heap.size)
    (hL : L ≤ 1000000) (hN : N ≤ 1000000) (hsort : ∀ a b, a ≤ b → b < L → pos a ≤ pos b) (hnd : ∀ i, i < L → nd i < N) (hall : ∀ x, x < N → ∃ i, i < L ∧ nd i = x)
    (hv : Visits g caps base ob w (ordr nd L (startAt pos L (pvTo s 16))) row cont) (hi : InvRow ob base (row []) w) :
    Calls Tryd.prog 31 #[.pointer (some ⟨rb, 0, none⟩), .string s, .func (.func g) #[] caps] w fun e w' =>
      e = .returned (.tuple #[]) ∧ InvRow ob base (row (cutL cont [] (ordr nd L (startAt pos L (pvTo s 16))))) w' ∧ Same base ob w w' := by
  have HX : Hid (hexTo s 16) := hx
  have HR : Hid (RingAt w rb pb L N R pos (fun i => (nd i : Int))) := hr
  have HS : Hid (∀ a b, a ≤ b → b < L → pos a ≤ pos b) := hsort
  have HND : Hid (∀ i, i < L → nd i < N) := hnd
  have HALL : Hid (∀ x, x < N → ∃ i, i < L ∧ nd i = x) := hall
  have HV : Hid (Visits g caps base ob w (ordr nd L (startAt pos L (pvTo s 16))) row cont) := hv
  have HI : Hid (InvRow ob base (row []) w) := hi
  have hsz : s.size ≤ maxLen := hs
  unfold maxLen at hs
  clear hx hr hsort hnd hall hv hi
  go_enter Tryd.func31, Tryd.ntmps31
  go_wp2_with fail
  refine (parseUint_yes (s.extract 0 16) _ (size_head h16) (hex_head HX.out)).mono ?_
  rw [pv_head 16 (Nat.le_refl _)]
  rintro e w1 ⟨rfl, hb1⟩
  generalize hp : pvTo s 16 = p at *
  have HP : Hid (pvTo s 16 = p) := hp
  clear hp
  have hz1 : w.heap.size < w1.heap.size := by have := hb1.size; simp at this; omega
  have hx1 : w1.heap[w.heap.size]? = some (.cells #[.pointer (some ⟨rb, 0, none⟩)] 29 (0, 0)) := by
    rw [hb1.block w.heap.size (by simp)]; exact heap_alloc_new w _
  have HB1 : Hid (Below w.heap.size w w1) := (((Below.refl w.heap.size w).alloc (Nat.le_refl _) _).trans (hb1.mono (by simp)))
  clear hb1
  have HR1 : Hid (RingAt w1 rb pb L N R pos (fun i => (nd i : Int))) := HR.out.below HB1.out (by omega) (by omega)
  have r0 := HR1.out.h0
  have r1 := HR1.out.h1
  have l1 : rb < w1.heap.size := by omega
  have c1 := cell_of_one hx1
  have HX1 : Hid (w1.heap[w.heap.size]? = some (.cells #[.pointer (some ⟨rb, 0, none⟩)] 29 (0, 0))) := hx1
  clear hx1
  go_wp2_with fail
  have B2 : Below w1.heap.size w1 (w1.alloc (Obj.cells #[Value.int IntKind.u64 p] 25)) := (Below.refl _ _).alloc (Nat.le_refl _) _
  refine (search_any w.heap.size w1.heap.size rb pb L N R pos (fun i => (nd i : Int)) p _ hL ((B2.cell (p := ⟨w.heap.size, 0, none⟩) hz1).trans c1) (by rw [World.cell?_alloc_at _ _ _ _ (by simp)]; rfl) (HR1.out.below B2 (by omega) (by omega)) HS.out).mono ?_
  rintro e w2 ⟨st, hst, rfl, hlo, hhi, q, hq⟩
  have HST : Hid (startAt pos L p = st) := cntB_bound L hst (fun t ht => by simpa using hlo t ht) (fun t h1 h2 => by simpa using hhi t h1 h2)
  clear hlo hhi
  have B3 : Below w1.heap.size w1 w2 := by rw [hq]; exact below_drewN B2 q
  clear hq B2
  have c2 := (B3.cell (p := ⟨w.heap.size, 0, none⟩) hz1).trans c1
  have q0 := (B3.cell (p := ⟨rb, 0, none⟩) l1).trans r0
  have q1 := (B3.cell (p := ⟨rb, 1, none⟩) l1).trans r1
  have HB2 : Hid (Below w.heap.size w w2) := HB1.out.trans (B3.mono (by omega))
  have HX2 : Hid (w2.heap[w.heap.size]? = some (.cells #[.pointer (some ⟨rb, 0, none⟩)] 29 (0, 0))) := (B3.block _ hz1).trans HX1.out
  have hz2 : w.heap.size < w2.heap.size := by have := B3.size; omega
  clear B3 c1 r0 r1 HX1 HB1 HR1
  go_wp2_with (at_make; refine wpList_mk _ rfl _ _ 35 rfl 4 (.bool false) 1 Tryd.underlying35 Tryd.info4 rfl _ _ _ _ N rfl rfl rfl rfl (by omega) (by omega) ?_; intro w3 hown hb3 hs3)
  have hmb : w.heap.size < w2.heap.size := hz2
  have W0 : WInv w base ob w.heap.size w2.heap.size rb N row [] w3 := by
    have hb := HB2.out.trans (hb3.mono (by omega))
    refine ⟨Same.of_below hb, (hb3.block _ hz2).trans HX2.out, hown.congr (fun i _ => by simp), HI.out.of_blocks (hb.block _ hob) fun k hk => hb.block _ ?_⟩
    obtain ⟨cs, fr, hc⟩ := hk
    exact lt_of_block hc
  clear HB2 HX2 hown hb3 hs3 c2 q0 q1 hz2
  generalize hD : ordr nd L (startAt pos L p) = D at *
  have HD : Hid (vis (rotq nd L st) L = D) := by rw [← hD, HST.out]; rfl
  have HD0 : Hid (ordr nd L (startAt pos L p) = D) := hD
  clear hD
  generalize hmb' : w2.heap.size = mb at *
  clear hmb'
  go_loopw [10, 11] (fun i c wr => ∃ t : Nat, t ≤ L ∧ i = .int .i64 ((st : Int) + t) ∧ c = .int .i64 ((vis (rotq nd L st) t).length : Nat) ∧ Hid (WInv w base ob w.heap.size mb rb N row (vis (rotq nd L st) t) wr) ∧
      Hid (cutL cont (vis (rotq nd L st) t) (D.drop (vis (rotq nd L st) t).length) = cutL cont [] D)) (fun i _ _ => st + L - (intOf i).toNat)
  case atStart => exact ⟨0, Nat.zero_le _, by simp, rfl, W0, rfl⟩
  case round =>
    obtain ⟨t, ht, rfl, rfl, HW, HC⟩ := hrel
    generalize hl : vis (rotq nd L st) t = l at *
    have rr := HW.out.same.block
    have qr : RingAt wr rb pb L N R pos (fun i => (nd i : Int)) := HR.out.of_cells (rr rb (by omega) (by omega) (.inl hrb)) (rr pb (by omega) (by omega) (.inl hpb))
    have b0 := cell_of_one HW.out.box
    have q0 := qr.h0
    have q1 := qr.h1
    clear rr
    by_cases hlt : l.length < N
    · have hq : ∀ i, i < t → rotq nd L st i < N := fun i hi => HND.out _ (Nat.mod_lt _ (by omega))
      have htL : t < L := by
        rcases Nat.lt_or_ge t L with h | h
        · exact h
        · exfalso
          obtain rfl : t = L := by omega
          have := vis_full (q := rotq nd t st) (N := N) hq (fun x hx => by
            obtain ⟨i, hi, e⟩ := HALL.out x hx
            refine ⟨(i + (t - st)) % t, Nat.mod_lt _ (by omega), ?_⟩
            unfold rotq
            rw [Nat.add_mod_mod, show st + (i + (t - st)) = i + t by omega, Nat.add_mod_right, Nat.mod_eq_of_lt hi]
            exact e)
          rw [hl] at this
          omega
      obtain ⟨j, hjd⟩ : ∃ j, j = (st + t) % L := ⟨_, rfl⟩
      have hjL : j < L := by rw [hjd]; exact Nat.mod_lt _ (by omega)
      have hjm : ((st : Int) + (t : Int)) % (L : Int) = (j : Int) := by rw [hjd]; simp
      have hjI : (j : Int) < (L : Int) := by omega
      have cn := qr.hn j hjL
      obtain ⟨x, hxd⟩ : ∃ x, x = nd j := ⟨_, rfl⟩
      have hxN : x < N := by rw [hxd]; exact HND.out j hjL
      have hxI : (x : Int) < (N : Int) := by omega
      have hrx : rotq nd L st t = x := by unfold rotq; rw [← hjd, hxd]
      rw [← hxd] at cn
      have cm := HW.out.met.at x hxN
      have HRX : Hid (rotq nd L st t = x) := hrx
      have HL : Hid (vis (rotq nd L st) t = l) := hl
      clear hxd hjd hrx hl hq qr
      have hL0 : (0 : Int) < (L : Int) := by omega
      by_cases hm : x ∈ l
      · have hmm : decide (x ∈ l) = true := by simpa using hm
        rw [hmm] at cm
        clear hmm
        go_wp2_with fail
        go_quiet (fail)
        go_wp2
        have hv1 : vis (rotq nd L st) (t + 1) = l := by rw [vis_old (by rw [HL.out, HRX.out]; exact hm), HL.out]
        go_roundw
        case rel => exact ⟨t + 1, by omega, by go_num, by rw [hv1], by rw [hv1]; exact HW.out.drewN _, by rw [hv1]; exact HC⟩
        case measure => simp [intOf]; omega
      · have hmm : decide (x ∈ l) = false := by simpa using hm
        rw [hmm] at cm
        clear hmm
        have fm := HW.out.met.free x
        go_wp2_with fail
        go_quiet (fail)
        go_wp2_with fail
        have hv1 : vis (rotq nd L st) (t + 1) = l ++ [x] := by rw [vis_new (by rw [HL.out, HRX.out]; exact hm), HL.out, HRX.out]
        have hpre : l ++ [x] <+: D := by rw [← hv1, ← HD.out]; exact vis_prefix_le _ (by omega)
        have hm1 := (HW.out.drewN nq).mark x hxN (by omega) hob (by omega)
        refine (HV.out l x _ hpre hm1.1 hm1.2.2.2).mono ?_
        rintro e w5 ⟨rfl, hi5, hs5⟩
        have W5 := WInv.visited (by omega) (by omega) ⟨hm1.1, hm1.2.1, hm1.2.2.1⟩ hi5 hs5
        have HW5 : Hid (WInv w base ob w.heap.size mb rb N row (l ++ [x]) w5) := W5
        have HV1 : Hid (vis (rotq nd L st) (t + 1) = l ++ [x]) := hv1
        clear W5 hm1 hi5 hs5 hv1 cm cn fm b0 q0 q1 hjm
        cases hct : cont (l ++ [x])
        · have HE : Hid (cutL cont [] D = l ++ [x]) := HC.out.symm.trans (cut_stop hpre hct)
          clear hct
          go_wp2
          refine bodyPost_ret (results_none rfl _ _ _) rfl ?_
          refine ⟨rfl, ?_, HW5.out.same⟩
          rw [HP.out, HD0.out, HE.out]
          exact HW5.out.inv
        · have HE : Hid (cutL cont (l ++ [x]) (D.drop (l ++ [x]).length) = cutL cont [] D) := (cut_step hpre hct).symm.trans HC.out
          clear hct
          go_wp2
          go_roundw
          case rel => exact ⟨t + 1, by omega, by go_num, by rw [HV1.out]; simp, by rw [HV1.out]; exact HW5, by rw [HV1.out]; exact HE⟩
          case measure => simp [intOf]; omega
    · have hDN : D.length ≤ N := by
        rw [← HD.out]
        exact vis_le (fun i hi => HND.out _ (Nat.mod_lt _ (by omega)))
      have HE : Hid (cutL cont [] D = l) := HC.out.symm.trans (cut_end (by omega))
      clear hl qr
      go_wp2
      go_end0
      refine ⟨rfl, ?_, HW.out.same⟩
      rw [HP.out, HD0.out, HE.out]
      exact HW.out.inv
end Go.Proofs.Qxb6608942aDoor
