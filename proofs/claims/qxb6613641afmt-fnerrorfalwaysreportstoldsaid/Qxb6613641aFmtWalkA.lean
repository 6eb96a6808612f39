import Derived.Test.Qxb6613641aFmtRows
import Derived.WalkKit
import Derived.WalkSpells
import Derived.WalkLawsBesides
import Derived.Stop.AnyFormat
import Derived.Stop.CallBack
import Derived.Stop.IfaceNil
import Derived.Stop.Texts
namespace Go.Proofs.Qxb6613641aFmt
open Go.RowKit Go.Extern.Stop Go.Stop Go.Extern

theorem Tryf.call13 (args : Array Value) (w : World) : (callFunc 13 args).run Tryf.prog w = ((FmtStop.sprintf #[9, 34] #[9] args).run Tryf.prog w).andThen fun v w' => .ok (.value v) w' :=
  run_callFunc_extern Tryf.func13 (by kernel_rfl) (by kernel_rfl) (by kernel_rfl) (by kernel_rfl) args w
theorem Tryf.call15 (args : Array Value) (w : World) : (callFunc 15 args).run Tryf.prog w = ((FmtStop.errorf #[9, 34] #[25] args).run Tryf.prog w).andThen fun v w' => .ok (.value v) w' :=
  run_callFunc_extern Tryf.func15 (by kernel_rfl) (by kernel_rfl) (by kernel_rfl) (by kernel_rfl) args w
theorem Tryf.guard (name : String) (w : World) : (FmtStop.guard name).run Tryf.prog w = .ok () w := by kernel_rfl
-- '%s at offset %d', two operands
theorem Tryf.fmt2 (w : World) : (FmtDoors.printed ⟨#[37, 115, 32, 97, 116, 32, 111, 102, 102, 115, 101, 116, 32, 37, 100]⟩ 2).run Tryf.prog w = .ok [(0, 115, false), (1, 100, false)] w := by kernel_rfl
def shape9 : List UInt8 := [12, 6, 0, 0, 0, 0, 0, 0, 0, 115, 116, 114, 105, 110, 103]
def shape3 : List UInt8 := [5, 3, 0, 0, 0, 0, 0, 0, 0, 105, 110, 116]
theorem Tryf.op9_115w (name : String) (x : ByteArray) (w : World) : (FmtStop.operand name true 115 false (.iface 9 (.string x))).run Tryf.prog w = .ok (shape9, FmtStop.pack x.data.toList) w := by kernel_rfl
theorem Tryf.op3_100w (name : String) (x : Int) (w : World) : (FmtStop.operand name true 100 false (.iface 3 (.int .i64 x))).run Tryf.prog w = .ok (shape3, Go.Extern.Stop.digits 8 (x % 2 ^ 64).toNat) w := by kernel_rfl
theorem Tryf.strict9 (name : String) (x : ByteArray) (w : World) : (FmtStop.strict name (.iface 9 (.string x))).run Tryf.prog w = .ok (shape9, FmtStop.pack x.data.toList) w := by kernel_rfl
theorem Tryf.ptr40 (w : World) : (FmtStop.ptrTo "errors.errorString").run Tryf.prog w = .ok 40 w := by kernel_rfl
theorem Tryf.elem40 (w : World) : (elemOf 40).run Tryf.prog w = .ok 42 w := by kernel_rfl
theorem Tryf.info9 : (Tryf.prog.info? 9).map (fun i => (decide (i.str = ""), i.methods.isEmpty)) = some (false, true) := by kernel_rfl

/-- A string reads as an operand under every verb. -/
theorem op9_any (name : String) (wrap : Bool) (verb : UInt8) (sharp : Bool) (x : ByteArray) (w : World) : ∃ r, (FmtStop.operand name wrap verb sharp (.iface 9 (.string x))).run Tryf.prog w = .ok r w := by
  obtain ⟨info, hi, hz⟩ := Option.map_eq_some_iff.1 Tryf.info9
  simp only [Prod.mk.injEq, decide_eq_false_iff_not] at hz
  have hs : info.str ≠ "" := hz.1
  have hm : info.methods = #[] := by simpa using hz.2
  have hu := Tryf.underlying9
  by_cases h84 : (verb == 84) = true
  · exact ⟨(21 :: FmtStop.pack info.str.toUTF8.data.toList, []), by simp [FmtStop.operand, typeStr, typeInfo, hi, hs, h84]⟩
  · refine ⟨(12 :: FmtStop.pack info.str.toUTF8.data.toList, FmtStop.pack x.data.toList), ?_⟩
    simp [FmtStop.operand, typeStr, typeInfo, hi, hs, h84, underlying, hu, FmtStop.shape, FmtStop.depth, FmtStop.bare, hm, FmtStop.value, Value.cells]

/-- fmt.Sprintf at whatever format, one string: it answers some text, and draws once. -/
theorem sprintf_run (F : Interp) (f x : ByteArray) (b : Nat) (w : World) (hF : F.answers w.tape) (hc : w.cell? ⟨b, 0, none⟩ = some (.iface 9 (.string x))) :
    ∃ s : ByteArray, s.size ≤ maxLen ∧ (callFunc 13 #[.string f, .slice (some ⟨b, 0, none⟩) 1 1]).run Tryf.prog w = .ok (.value (.string s)) w.drew := by
  have hcells : (FmtStop.cells (.slice (some ⟨b, 0, none⟩) 1 1)).run Tryf.prog w = .ok [.iface 9 (.string x)] w := by
    simp [FmtStop.cells, go_sem, hc]
  obtain ⟨ops, h⟩ := FmtStop.sprintf_any_format F hF #[9, 34] #[9] f (.slice (some ⟨b, 0, none⟩) 1 1) [.iface 9 (.string x)] (Tryf.guard _ w) hcells
    (fun v hv verb sharp => by obtain rfl := List.mem_singleton.1 hv; exact op9_any _ _ _ _ _ _) (fun v hv => by obtain rfl := List.mem_singleton.1 hv; exact ⟨_, Tryf.strict9 _ _ _⟩)
  refine ⟨_, ?_, by rw [Tryf.call13, h]; rfl⟩
  exact Go.Kit.textOf_size _

/-- The law's helpers answer some bool. -/
def SomeBool (e : Ending) : Prop := ∃ r : Bool, e = .returned (.bool r)

theorem bytes_any (o : Int) (f g : ByteArray) (w : World) (hf : f.size ≤ maxLen) (hg : g.size ≤ maxLen) :
    Calls Tryf.prog 5 #[.int .i64 o, .string f, .string g] w fun e w' => SomeBool e ∧ w = w' := by
  unfold maxLen at hf hg
  go_enter Tryf.func5, Tryf.ntmps5
  go_wp2
  all_goals go_ret
  all_goals exact ⟨⟨_, rfl⟩, rfl⟩

set_option maxHeartbeats 400000 in
theorem bounded_any (f : ByteArray) (w : World) (hf : f.size ≤ maxLen) :
    Calls Tryf.prog 6 #[.string f] w fun e w' => SomeBool e ∧ w = w' := by
  unfold maxLen at hf
  go_enter Tryf.func6, Tryf.ntmps6
  go_wp2
  go_loop [3, 4, 5] (fun v r i => ∃ (k : Nat) (a b : Int), k ≤ f.size ∧ i = .int .i64 k ∧ v = .int .i64 a ∧ r = .int .i64 b ∧ 0 ≤ a ∧ a ≤ 32 ∧ 0 ≤ b ∧ b ≤ 4) (fun _ _ i => f.size - (intOf i).toNat)
  case atStart => exact ⟨0, 0, 0, Nat.zero_le _, rfl, rfl, rfl, by omega, by omega, by omega, by omega⟩
  obtain ⟨k, a, b, hk, rfl, rfl, rfl, h1, h2, h3, h4⟩ := hrel
  by_cases hlt : k < f.size
  · go_wp2
    all_goals first
      | (go_ret; exact ⟨⟨_, rfl⟩, rfl⟩)
      | go_round
    all_goals first
      | (case measure => simp [intOf]; omega)
      | exact ⟨k + 1, _, _, by omega, by go_num, rfl, rfl, by omega, by omega, by omega, by omega⟩
  · go_wp2
    go_ret
    exact ⟨⟨_, rfl⟩, rfl⟩

def fmtText : ByteArray := ⟨#[37, 115, 32, 97, 116, 32, 111, 102, 102, 115, 101, 116, 32, 37, 100]⟩

/-- fmt.Errorf at '%s at offset %d': an error, not nil. -/
theorem errorf12 (F : Interp) (s : ByteArray) (o : Int) (b : Nat) (w : World) (hF : F.answers w.tape) (hc0 : w.cell? ⟨b, 0, none⟩ = some (.iface 9 (.string s))) (hc1 : w.cell? ⟨b, 1, none⟩ = some (.iface 3 (.int .i64 o))) :
    Calls Tryf.prog 12 #[.string ⟨#[37, 115, 32, 97, 116, 32, 111, 102, 102, 115, 101, 116, 32, 37, 100]⟩, .slice (some ⟨b, 0, none⟩) 2 2] w fun e w' => e = .returned (.iface 40 (.pointer (some ⟨w.heap.size, 0, none⟩))) ∧ Below w.heap.size w w' := by
  have hF' := answers_open hF
  have k15 := Tryf.call15
  have kg := Tryf.guard
  have kf := Tryf.fmt2
  have k9 := Tryf.op9_115w
  have k3 := Tryf.op3_100w
  have kp := Tryf.ptr40
  have ke := Tryf.elem40
  go_enter Tryf.func12, Tryf.ntmps12
  go_wp2
  go_ret
  exact ⟨rfl, ((Below.refl _ _).alloc (Nat.le_refl _) _).drew⟩

set_option maxHeartbeats 400000 in
/-- (*Parser).errorf with one string behind the format. -/
theorem errorf10 (F : Interp) (p : Value) (o : Int) (f x : ByteArray) (b : Nat) (w : World) (hF : F.answers w.tape) (hc : w.cell? ⟨b, 0, none⟩ = some (.iface 9 (.string x))) :
    Calls Tryf.prog 10 #[p, .int .i64 o, .string f, .slice (some ⟨b, 0, none⟩) 1 1] w fun e w' => (∃ a, e = .returned (.iface 40 (.pointer (some a)))) ∧ Below w.heap.size w w' := by
  obtain ⟨s, hs, hrun⟩ := sprintf_run F f x b w hF hc
  have HF : Hid (F.answers w.tape) := hF
  clear hF
  go_enter Tryf.func10, Tryf.ntmps10
  go_wp2_with fail
  have hB : Below w.heap.size w (w.alloc (Obj.cells #[Value.iface 9 (Value.string s), Value.iface 3 (Value.int IntKind.i64 o)] 20)).drew := ((Below.refl _ _).alloc (Nat.le_refl _) _).drew
  refine (errorf12 F s o w.heap.size (w.alloc (Obj.cells #[Value.iface 9 (Value.string s), Value.iface 3 (Value.int IntKind.i64 o)] 20)).drew HF.out (by
    show (w.alloc (Obj.cells #[Value.iface 9 (Value.string s), Value.iface 3 (Value.int IntKind.i64 o)] 20)).cell? _ = _
    rw [World.cell?_alloc_at _ _ _ _ (by simp)]; rfl) (by
    show (w.alloc (Obj.cells #[Value.iface 9 (Value.string s), Value.iface 3 (Value.int IntKind.i64 o)] 20)).cell? _ = _
    rw [World.cell?_alloc_at _ _ _ _ (by simp)]; rfl)).mono ?_
  rintro e w1 ⟨rfl, hb1⟩
  have HE : Hid (Below w.heap.size w w1) := hB.trans (hb1.mono hB.size)
  clear hB hb1 hrun
  go_wp2
  go_ret
  exact ⟨⟨_, rfl⟩, HE.out⟩

/-- An error that is not nil. -/
def IsErr (e : Ending) : Prop := ∃ a, e = .returned (.iface 40 (.pointer (some a)))

set_option maxHeartbeats 400000 in
theorem zzErrorf_any (F : Interp) (o : Int) (f x : ByteArray) (w : World) (hF : F.answers w.tape) :
    Calls Tryf.prog 7 #[.int .i64 o, .string f, .string x] w fun e w' => IsErr e ∧ Below w.heap.size w w' := by
  have HF : Hid (F.answers w.tape) := hF
  clear hF
  go_enter Tryf.func7, Tryf.ntmps7
  go_wp2_with fail
  obtain ⟨W, hW⟩ : ∃ W, W = (w.alloc (Obj.cells #[Value.slice none 0 0, Value.int IntKind.i64 0, Value.int IntKind.i64 0, Value.string { data := #[] }] 31)).alloc (Obj.cells #[Value.iface 9 (Value.string x)] 20) := ⟨_, rfl⟩
  have hB : Below w.heap.size w W := by rw [hW]; exact ((Below.refl _ _).alloc (Nat.le_refl _) _).alloc (by simp) _
  have hc : W.cell? ⟨w.heap.size + 1, 0, none⟩ = some (.iface 9 (.string x)) := by
    rw [hW, World.cell?_alloc_at _ _ _ _ (by simp)]; rfl
  rw [← hW]
  refine (errorf10 F _ o f x (w.heap.size + 1) W (by rw [hB.tape]; exact HF.out) hc).mono ?_
  rintro e w1 ⟨⟨a, rfl⟩, hb1⟩
  have HE : Hid (Below w.heap.size w w1) := hB.trans (hb1.mono hB.size)
  clear hB hb1 hc hW
  go_wp2
  go_ret
  exact ⟨⟨_, rfl⟩, HE.out⟩

set_option maxHeartbeats 800000 in
/-- The law. -/
theorem law (F : Interp) (o : Int) (f x : ByteArray) (w : World) (hF : F.answers w.tape) (hf : f.size ≤ maxLen) (hx : x.size ≤ maxLen) :
    Calls Tryf.prog 3 #[.int .i64 o, .string f, .string x] w fun e w' => e = .returned (.bool true) ∧ Below w.heap.size w w' := by
  have HF : Hid (F.answers w.tape) := hF
  have hf0 := hf
  have hx0 := hx
  unfold maxLen at hf hx
  clear hF
  by_cases x0 : 65536 < f.size
  · go_enter Tryf.func3, Tryf.ntmps3
    go_wp2_with (go_at_call 5; refine (bytes_any o f x _ hf0 hx0).mono ?_; rintro e w' ⟨⟨r, rfl⟩, rfl⟩; cases r)
    all_goals (go_ret; exact ⟨rfl, Below.refl _ _⟩)
  have d0 : decide ((65536 : Int) < (f.size : Int)) = false := by simp; omega
  by_cases x1 : 4096 < x.size
  · go_enter Tryf.func3, Tryf.ntmps3
    go_wp2_with (go_at_call 5; refine (bytes_any o f x _ hf0 hx0).mono ?_; rintro e w' ⟨⟨r, rfl⟩, rfl⟩; cases r)
    all_goals (go_ret; exact ⟨rfl, Below.refl _ _⟩)
  have d1 : decide ((4096 : Int) < (x.size : Int)) = false := by simp; omega
  go_enter Tryf.func3, Tryf.ntmps3
  go_wp2_with (first | (go_at_call 5; refine (bytes_any o f x _ hf0 hx0).mono ?_; rintro e w' ⟨⟨r, rfl⟩, rfl⟩; cases r) | (go_at_call 6; refine (bounded_any f _ hf0).mono ?_; rintro e w' ⟨⟨r, rfl⟩, rfl⟩; cases r))
  · go_ret; exact ⟨rfl, Below.refl _ _⟩
  · go_ret; exact ⟨rfl, Below.refl _ _⟩
  refine (zzErrorf_any F o f x _ HF.out).mono ?_
  rintro e w1 ⟨⟨a, rfl⟩, hb1⟩
  have HE : Hid (Below w.heap.size w w1) := hb1
  clear hb1
  go_wp2
  go_ret
  exact ⟨rfl, HE.out⟩
end Go.Proofs.Qxb6613641aFmt
