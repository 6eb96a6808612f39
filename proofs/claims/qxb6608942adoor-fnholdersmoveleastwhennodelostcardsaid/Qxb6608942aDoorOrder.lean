import Derived.Test.Qxb6608942aDoorWalkA
namespace Go.Proofs.Qxb6608942aDoor
open Go.RowKit

theorem enters_body {P : Program} {f : FuncId} {fn : Func} {c : Code} (hf : P.funcs[f]? = some fn) (hname : (fn.name == "runtime.NumGoroutine") = false) (hb : fn.body = some c) (args : Array Value) (w : World) :
    (callFunc f args).run P w = .ok (.enter f args) w := by
  have h1 : fn.name ≠ "runtime.NumGoroutine" := by simpa using hname
  simp [callFunc, hf, h1, hb, mark]

theorem ownsRow_shape {w : World} {base : Nat} {e : TypeId} {size : Nat} {v : Value} {n : Nat} {xs : List Value} (h : w.ownsRow base e size v n xs) : ∃ ao cap, v = .slice ao n cap := by
  rcases h.2 with ⟨e, hn⟩ | ⟨g, cap, cur, e, _⟩
  · subst hn; exact ⟨_, _, e⟩
  · exact ⟨_, _, e⟩

/-- Behind 'x = append(x, n)' through a captured variable. -/
theorem noted {ob base : Nat} {l : List Nat} {x : Nat} {w w1 : World} {v v' : Value} {O : Obj} (hbo : base ≤ ob) (hv : w.heap[ob]? = some (.cells #[v] 23 (0, 0)))
    (hown : w.ownsRow base 3 1 v l.length (l.map (fun x : Nat => Value.int .i64 (x : Int))))
    (hown' : w1.ownsRow base 3 1 v' (l.length + 1) (l.map (fun x : Nat => Value.int .i64 (x : Int)) ++ [Value.int .i64 (x : Int)])) (hg : (w.alloc O).grownBy w1 v.ownBlock) :
    w1.heap[ob]? = some (.cells #[v] 23 (0, 0)) ∧ InvRow ob base (l ++ [x]) (w1.setCell ⟨ob, 0, none⟩ v') ∧ Same base ob w (w1.setCell ⟨ob, 0, none⟩ v') := by
  have hrow : ∀ g, v.ownBlock = some g → base ≤ g ∧ isT3 w g := by
    intro g hgb
    rcases hown.2 with ⟨e, _⟩ | ⟨g', cap, cur, e, hb, hh, _⟩
    · subst e; simp [Value.ownBlock] at hgb
    · subst e
      simp only [Value.ownBlock, Option.some.injEq] at hgb
      subst hgb
      exact ⟨hb, _, _, hh⟩
  have hsz : w.heap.size + 1 ≤ w1.heap.size := by have := hg.size; simpa using this
  have hkeep : ∀ k, k < w.heap.size → (k < base ∨ ¬ isT3 w k) → w1.heap[k]? = w.heap[k]? := fun k hk hc => by
    rw [hg.block k (by simp; omega) (fun e => ?_), Below.heap_alloc _ _ _ hk]
    obtain ⟨h1, h2⟩ := hrow k e.symm
    rcases hc with hc | hc
    · omega
    · exact hc h2
  have hn3 : ¬ isT3 w ob := by rintro ⟨cs, fr, hc⟩; rw [hv] at hc; simp at hc
  have h1 : w1.heap[ob]? = some (.cells #[v] 23 (0, 0)) := (hkeep ob (lt_of_block hv) (.inr hn3)).trans hv
  refine ⟨h1, ⟨v', one_setCell h1, ?_⟩, hg.os, hg.tape, hg.output, by rw [World.size_setCell]; omega, fun k hk ho hc => ?_⟩
  · have h2 := ownsRow_setCell_other hown' (a := ⟨ob, 0, none⟩) (fun e => ?_) v'
    · simpa using h2
    · rcases hown'.2 with ⟨e2, _⟩ | ⟨g', cap, cur, e2, hb, hh, _⟩
      · subst e2; simp [Value.ownBlock] at e
      · subst e2
        simp only [Value.ownBlock, Option.some.injEq] at e
        subst e
        rw [h1] at hh
        simp at hh
  · rw [Below.heap_setCell _ _ _ _ (by exact ho)]
    exact hkeep k hk hc

set_option maxHeartbeats 400000 in
/-- Order's visitor: it notes the node, and goes on. -/
theorem order_visit (base ob : Nat) (l : List Nat) (x : Nat) (w : World) (hl : l.length ≤ 1000000) (hbo : base ≤ ob) (hi : InvRow ob base l w) :
    Calls Tryd.prog 32 #[.int .i64 (x : Int), .pointer (some ⟨ob, 0, none⟩)] w fun e w' => e = .returned (.bool true) ∧ InvRow ob base (l ++ [x]) w' ∧ Same base ob w w' := by
  obtain ⟨v, hv, hown⟩ := hi
  have c0 := cell_of_one hv
  have f0 := free_of_one hv
  have HV : Hid (w.heap[ob]? = some (.cells #[v] 23 (0, 0))) := hv
  have hob := lt_of_block hv
  obtain ⟨i0, hi0, hz0, hz1, hz2⟩ := info_parts Tryd.info3
  clear hv
  go_enter Tryd.func32, Tryd.ntmps32
  go_wp2_with (at_builtin; refine wpList_append_own _ rfl _ _ 23 rfl base 3 i0 (.int .i64 0) 1 8 Tryd.underlying23 hi0 hz0 hz1 hz2 rfl (by decide) _ _ _ rfl (hown.alloc _) ⟨w.heap.size, 0, none⟩ 1 1 [.int .i64 (x : Int)] rfl rfl (cell_one_new _ _ _) ?c2 ?c3 ?c4 ?c5 ?_)
  case c2 => intro u hu; simp at hu; subst hu; rfl
  case c3 => unfold maxLen; omega
  case c4 => omega
  case c5 => simp; omega
  intro v' w1 hown' hgrow _
  obtain ⟨n1, n2, n3⟩ := noted hbo HV.out hown hown' hgrow
  have d0 := cell_of_one n1
  have g0 := free_of_one n1
  obtain ⟨ao, cap, rfl⟩ := ownsRow_shape hown'
  clear hown' hgrow c0 f0
  go_wp2
  go_ret
  exact ⟨rfl, n2, n3⟩

/-- What the variable holds at the end reads as the list. -/
theorem InvRow.reads {ob base : Nat} {l : List Nat} {w : World} (h : InvRow ob base l w) :
    ∃ ao cap, w.cell? ⟨ob, 0, none⟩ = some (.slice ao l.length cap) ∧ Rd w ao l.length (fun i => .int .i64 ((l.getD i 0 : Nat) : Int)) := by
  obtain ⟨v, hv, hl, ho⟩ := h
  rcases ho with ⟨e, hn⟩ | ⟨g, cap, cur, e, hb, hh, h1, h2, h3, h4⟩
  · subst e
    exact ⟨none, 0, by rw [hn]; exact cell_of_one hv, fun h => by omega⟩
  · subst e
    refine ⟨_, cap, cell_of_one hv, fun _ => ⟨g, 0, rfl, fun i hi => ?_⟩⟩
    have e1 : (cur.toList.take (l.length * 1))[i]? = some (.int .i64 ((l.getD i 0 : Nat) : Int)) := by
      rw [h4]; simp [List.getD, hi]
    have e2 : cur[i]? = some (.int .i64 ((l.getD i 0 : Nat) : Int)) := by
      rw [← e1, List.getElem?_take, if_pos (by omega)]; simp
    simp [World.cell?, hh, e2]

def always (_ : List Nat) : Bool := true
theorem cut_always : ∀ (xs acc : List Nat), cutL always acc xs = acc ++ xs
  | [], acc => by simp [cutL]
  | x :: xs, acc => by rw [cutL, if_pos (show always (acc ++ [x]) = true from rfl), cut_always xs]; simp

set_option maxHeartbeats 400000 in
/-- (*Ring).Order. -/
theorem order_any (s : ByteArray) (rb pb L N R : Nat) (pos : Nat → Int) (nd : Nat → Nat) (w : World)
    (hs : s.size ≤ maxLen) (h16 : 16 ≤ s.size) (hx : hexTo s 16)
    (hr : RingAt w rb pb L N R pos (fun i => (nd i : Int))) (hrb : rb < w.heap.size) (hpb : pb < w.heap.size)
    (hL : L ≤ 1000000) (hN : N ≤ 1000000) (hsort : ∀ a b, a ≤ b → b < L → pos a ≤ pos b) (hnd : ∀ i, i < L → nd i < N) (hall : ∀ x, x < N → ∃ i, i < L ∧ nd i = x) :
    Calls Tryd.prog 14 #[.pointer (some ⟨rb, 0, none⟩), .string s] w fun e w' =>
      ∃ ao cap, e = .returned (.slice ao (ordr nd L (startAt pos L (pvTo s 16))).length cap) ∧ Rd w' ao (ordr nd L (startAt pos L (pvTo s 16))).length (fun i => .int .i64 (((ordr nd L (startAt pos L (pvTo s 16))).getD i 0 : Nat) : Int)) ∧ Below w.heap.size w w' := by
  have HX : Hid (hexTo s 16) := hx
  have HR : Hid (RingAt w rb pb L N R pos (fun i => (nd i : Int))) := hr
  have HS : Hid (∀ a b, a ≤ b → b < L → pos a ≤ pos b) := hsort
  have HND : Hid (∀ i, i < L → nd i < N) := hnd
  have HALL : Hid (∀ x, x < N → ∃ i, i < L ∧ nd i = x) := hall
  have q1 := hr.h1
  clear hx hr hsort hnd hall
  obtain ⟨i0, hi0, hz0, hz1, hz2⟩ := info_parts Tryd.info3
  go_enter Tryd.func14, Tryd.ntmps14
  go_wp2_with (at_make; refine wpList_make_own _ rfl _ _ 23 rfl w.heap.size 3 i0 (.int .i64 0) 1 Tryd.underlying23 hi0 hz0 hz1 _ _ _ N rfl rfl rfl (by rw [hz2]; omega) (by unfold maxLen; omega) (Nat.le_refl _) ?_; intro w1 hown hg1)
  have hB1 : Below w.heap.size w w1 := (Below.refl _ _).grown hg1 (Nat.le_refl _) (fun k h => by cases h)
  have hsz1 := hB1.size
  have hB : Below w.heap.size w (w1.alloc (Obj.cells #[Value.slice (some ⟨w.heap.size, 0, none⟩) 0 N] 23)) := hB1.alloc hsz1 _
  have hI : InvRow w1.heap.size w.heap.size (id []) (w1.alloc (Obj.cells #[Value.slice (some ⟨w.heap.size, 0, none⟩) 0 N] 23)) := ⟨_, heap_alloc_new w1 _, hown.alloc _⟩
  refine (walk_any 32 #[.pointer (some ⟨w1.heap.size, 0, none⟩)] w.heap.size w1.heap.size s rb pb L N R pos nd id always _ (enters_body Tryd.func32 (by kernel_rfl) rfl) hs h16 HX.out
    (HR.out.below hB hrb hpb) hrb hpb hsz1 (by simp) hL hN HS.out HND.out HALL.out (fun acc x wv hpre hsame hinv => ?_) hI).mono ?_
  · have hlen : acc.length ≤ 1000000 := by
      have h1 := hpre.length_le
      have h2 : (ordr nd L (startAt pos L (pvTo s 16))).length ≤ N := vis_le (fun i hi => HND.out _ (Nat.mod_lt _ (by omega)))
      simp at h1
      omega
    exact order_visit w.heap.size w1.heap.size acc x wv hlen hsz1 hinv
  · rintro e w2 ⟨rfl, hi2, hs2⟩
    obtain ⟨ao, cap, hc, hrd⟩ := hi2.reads
    rw [show (id (cutL always [] (ordr nd L (startAt pos L (pvTo s 16))))) = ordr nd L (startAt pos L (pvTo s 16)) from by rw [cut_always]; rfl] at hc hrd
    have HRD : Hid _ := hrd
    have HBE : Hid (Below w.heap.size w w2) := hB.trans (hs2.below (by simp; omega) hsz1)
    clear hi2 hs2 hB hI hown hg1 hB1 hrd
    go_wp2
    go_ret
    exact ⟨ao, cap, rfl, HRD.out, HBE.out⟩
end Go.Proofs.Qxb6608942aDoor
