import Derived.Test.Qxb6608942aDoorBase
import Derived.Laws.CopyOwn
namespace Go.Proofs.Qxb6608942aDoor
open Go.RowKit

/-- 'copy(row, src)': a row of the call's own, as long as what is copied into it. -/
theorem wpList_cp {P : Program} {w : World} {ops : Array Oper} {rest : List Oper} {o : Oper} {a : Act} {Q : Exit → Act → World → Prop} (hgd : o.guard = none) (d s : Operand) (dT sT : TypeId)
    (ho : o.op = .call { callee := .builtin .copy, args := #[d, s], argTypes := #[dT, sT] }) (elem : TypeId) (hu : P.underlying dT = some (.slice elem)) (hsz : (P.info? elem).map (·.size) = some 1)
    (sp : Option Addr) (n sCap g : Nat) (hd : a.eval d = .slice (some ⟨g, 0, none⟩) n n) (hs : a.eval s = .slice sp n sCap)
    (t : TypeId) (f0 f : Nat → Value) (hown : Own w g n t f0) (hrd : Rd w sp n f) (h1 : ∀ i, (f i).oneCell' = true) (B : Nat) (w0 : World) (hb : Below B w0 w) (hBg : B ≤ g)
    (h : ∀ w', Own w' g n t f → Below B w0 w' → wpList P ops Q rest (a.put o.dst (goInt n)) w') :
    wpList P ops Q (o :: rest) a w := by
  obtain ⟨cur, hh, hcs, hcc⟩ := hown
  have hln : ((List.range n).map f).length = n := by simp
  refine wpList_copy_splice hgd d s dT sT ho elem hu hsz _ sp n n n sCap hd hs g 0 cur.toList t (by simpa using hh) ((List.range n).map f) (by rw [hln]; exact (Nat.min_self n).symm) (fun hp => ?_) (by simp [hcs]) (fun v hv => ?_) B w0 hb hBg ?_
  · rw [hln] at hp
    obtain ⟨b, off, e, hc⟩ := hrd hp
    refine ⟨rfl, _, e, fun j v hj => ?_⟩
    have hjn : j < n := by
      have := (List.getElem?_eq_some_iff.1 hj).1
      simpa using this
    rw [Addr.add_lit, hc j hjn]
    simpa [hjn] using hj
  · obtain ⟨i, _, rfl⟩ := List.mem_map.1 hv
    exact h1 i
  · intro w' HG hB
    rw [hln]
    refine h w' ⟨((List.range n).map f).toArray, ?_, by simp, fun i hi => by simp [hi]⟩ hB
    have e : splice cur.toList 0 ((List.range n).map f) = (List.range n).map f := by
      unfold splice
      rw [List.take_zero, List.drop_of_length_le (by simp [hcs])]
      simp
    rw [← e]
    exact HG.out

theorem bytes3_any (s : ByteArray) (a b : Option Addr) (n m ca cb : Nat) (N : Int) (w : World) (hs : s.size ≤ maxLen) (hn : n ≤ maxLen) (hm : m ≤ maxLen) :
    Calls Tryd.prog 10 #[.string s, .slice a n ca, .slice b m cb, .int .i64 N] w fun e w' => ∃ r : Bool, e = .returned (.bool r) ∧ w = w' := by
  unfold maxLen at hs hn hm
  go_enter Tryd.func10, Tryd.ntmps10
  go_wp2
  all_goals go_ret
  all_goals exact ⟨_, rfl, rfl⟩

end Go.Proofs.Qxb6608942aDoor
