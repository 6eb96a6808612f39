import Derived.Test.Qxb6608942aDoorBase
import Derived.Test.Qxb6608942aDoorPlain
namespace Go.Proofs.Qxb6608942aDoor
open Go.RowKit

def seenB (node : Nat → Int) : Nat → Nat → Bool
  | 0, _ => false
  | k + 1, i => seenB node k i || (node k == (i : Int))
theorem seenB_mem (node : Nat → Int) (i : Nat) : ∀ k, seenB node k i = true → ∃ j, j < k ∧ node j = (i : Int)
  | 0, h => by simp [seenB] at h
  | k + 1, h => by
    simp only [seenB, Bool.or_eq_true, beq_iff_eq] at h
    rcases h with h | h
    · obtain ⟨j, hj, e⟩ := seenB_mem node i k h; exact ⟨j, by omega, e⟩
    · exact ⟨k, by omega, h⟩

/-- What the ring's test establishes. -/
structure RingFits (n m N : Nat) (pos node : Nat → Int) : Prop where
  len : n = m
  sorted : ∀ a b, a ≤ b → b < n → pos a ≤ pos b
  range : ∀ j, j < m → 0 ≤ node j ∧ node j < (N : Int)
  all : ∀ x, x < N → ∃ j, j < m ∧ node j = (x : Int)

theorem sorted_of {pos : Nat → Int} {n : Nat} (h : ∀ t, t + 1 < n → pos t ≤ pos (t + 1)) (a : Nat) : ∀ d, a + d < n → pos a ≤ pos (a + d)
  | 0, _ => Int.le_refl _
  | d + 1, hd => Int.le_trans (sorted_of h a d (by omega)) (h (a + d) (by omega))

theorem seen_none (node : Nat → Int) (N : Nat) : cntB (seenB node 0) N = 0 := cntB_none N (fun _ _ => rfl)
theorem seen_again {node : Nat → Int} {k x N : Nat} (hx : node k = (x : Int)) (h : seenB node k x = true) : (∀ i, seenB node (k + 1) i = seenB node k i) ∧ cntB (seenB node (k + 1)) N = cntB (seenB node k) N := by
  have h1 : ∀ i, seenB node (k + 1) i = seenB node k i := fun i => by
    simp only [seenB]
    by_cases e : i = x
    · subst e; simp [h]
    · have : (node k == (i : Int)) = false := by rw [beq_eq_false_iff_ne, hx]; omega
      simp [this]
  exact ⟨h1, cntB_congr N (fun i _ => h1 i)⟩
theorem seen_new {node : Nat → Int} {k x N : Nat} (hx : node k = (x : Int)) (h : seenB node k x = false) (hxN : x < N) : (∀ i, seenB node (k + 1) i = if i = x then true else seenB node k i) ∧ cntB (seenB node (k + 1)) N = cntB (seenB node k) N + 1 := by
  have h1 : ∀ i, seenB node (k + 1) i = if i = x then true else seenB node k i := fun i => by
    simp only [seenB]
    by_cases e : i = x
    · subst e; simp [hx]
    · have : (node k == (i : Int)) = false := by rw [beq_eq_false_iff_ne, hx]; omega
      simp [this, e]
  refine ⟨h1, ?_⟩
  rw [cntB_step (p := seenB node k) (q := seenB node (k + 1)) (x := x) h (by rw [h1]; simp) (fun i hi => by rw [h1, if_neg hi]) N, if_pos hxN]

set_option maxHeartbeats 800000 in
theorem ringOK_any (a b : Option Addr) (n m N ca cb : Nat) (pos node : Nat → Int) (w : World) (hn : n ≤ 1000000) (hm : m ≤ 1000000) (hN : N ≤ 65536)
    (ha : Rd w a n (fun i => .int .u64 (pos i))) (hb : Rd w b m (fun i => .int .i64 (node i))) :
    Calls Tryd.prog 12 #[.slice a n ca, .slice b m cb, .int .i64 N] w fun e w' => ∃ r : Bool, e = .returned (.bool r) ∧ (r = true → RingFits n m N pos node) ∧ Below w.heap.size w w' := by
  have HA : Hid (Rd w a n (fun i => .int .u64 (pos i))) := ha
  have HB : Hid (Rd w b m (fun i => .int .i64 (node i))) := hb
  clear ha hb
  have hd1 : decide ((N : Int) < 0) = false := by simp
  have hd2 : decide ((65536 : Int) < (N : Int)) = false := by simp; omega
  by_cases hnm : n = m
  · subst hnm
    go_enter Tryd.func12, Tryd.ntmps12
    go_wp2
    go_loopw [7] (fun i wr => ∃ t : Nat, (t < n ∨ t = 0) ∧ i = .int .i64 ((t : Int) + 1) ∧ Hid (∀ u, u + 1 ≤ t → u + 1 < n → pos u ≤ pos (u + 1)) ∧ Below w.heap.size w wr) (fun i _ => n - (intOf i).toNat)
    case atStart => exact ⟨0, .inr rfl, rfl, (fun u hu => by omega), Below.refl _ _⟩
    case round =>
      obtain ⟨t, ht, rfl, HT, hbl⟩ := hrel
      by_cases hlt : t + 1 < n
      · obtain ⟨ba, oa, rfl, hca⟩ := HA.out.below hbl (by omega)
        have c1 := hca t (by omega)
        have c2 := hca (t + 1) hlt
        have HBL : Hid (Below w.heap.size w wr) := hbl
        clear hca hbl
        have hlt1 : (t : Int) < (n : Int) := by omega
        have hlt2 : (t : Int) + 1 < (n : Int) := by omega
        by_cases hord : pos t ≤ pos (t + 1)
        · go_wp2
          go_quiet (fail)
          go_wp2
          go_roundw
          case rel => exact ⟨t + 1, .inl hlt, by go_num, (fun u h1 h2 => by
            by_cases e : u = t
            · subst e; exact hord
            · exact HT.out u (by omega) h2), below_drewN HBL.out _⟩
          case measure => simp [intOf]; omega
        · go_wp2
          go_quiet (fail)
          go_wp2
          go_ret
          exact ⟨false, rfl, (fun h => by cases h), below_drewN HBL.out _⟩
      · have HSO : Hid (∀ a b, a ≤ b → b < n → pos a ≤ pos b) := fun a b h1 h2 => by
          have := sorted_of (pos := pos) (n := n) (fun u hu => HT.out u (by omega) hu) a (b - a) (by omega)
          rwa [show a + (b - a) = b by omega] at this
        clear HT
        go_wp2_with (at_make; refine wpList_mk _ rfl _ _ 35 rfl 4 (.bool false) 1 Tryd.underlying35 Tryd.info4 rfl _ _ _ _ N rfl rfl rfl rfl (by omega) (by omega) ?_; intro w3 hown hb3 hs3)
        have hmb : w.heap.size ≤ wr.heap.size := hbl.size
        have B3 : Below w.heap.size w w3 := hbl.trans (hb3.mono hmb)
        generalize wr.heap.size = mb at *
        clear hb3 hs3
        go_loopw [9, 10] (fun c i wr => ∃ k : Nat, k ≤ n ∧ i = .int .i64 k ∧ c = .int .i64 (cntB (seenB node k) N : Nat) ∧ Below w.heap.size w wr ∧ Own wr mb N 4 (fun i => .bool (seenB node k i)) ∧ Hid (∀ j, j < k → 0 ≤ node j ∧ node j < (N : Int))) (fun _ i _ => n - (intOf i).toNat)
        case atStart => exact ⟨0, Nat.zero_le _, rfl, by rw [seen_none]; rfl, B3, hown, fun j hj => by omega⟩
        case round =>
          obtain ⟨k, hk, rfl, rfl, hbk, hok, HK⟩ := hrel
          have hcl := cntB_le (seenB node k) N
          by_cases hlt : k < n
          · obtain ⟨bb, ob, rfl, hcb⟩ := HB.out.below hbk (by omega)
            have c1 : wr.cell? ⟨bb, ob + k, none⟩ = some (.int .i64 (node k)) := hcb k hlt
            have hlt1 : (k : Int) < (n : Int) := by omega
            clear hcb
            have HBK : Hid (Below w.heap.size w wr) := hbk
            clear hbk
            by_cases hr : 0 ≤ node k ∧ node k < (N : Int)
            · obtain ⟨hr1, hr2⟩ := hr
              obtain ⟨x, hx⟩ := Int.eq_ofNat_of_zero_le hr1
              have hxN : x < N := by omega
              have hxI : (x : Int) < (N : Int) := by omega
              have HXE : Hid (node k = (x : Int)) := hx
              rw [hx] at c1
              have cx : wr.cell? ⟨mb, x, none⟩ = some (.bool (seenB node k x)) := hok.at x hxN
              have fx := hok.free x
              have HOK : Hid (Own wr mb N 4 (fun i => .bool (seenB node k i))) := hok
              have HK2 : Hid (∀ j, j < k + 1 → 0 ≤ node j ∧ node j < (N : Int)) := fun j hj => by
                by_cases e : j = k
                · subst e; exact ⟨hr1, hr2⟩
                · exact HK.out j (by omega)
              have hdx : decide ((x : Int) < 0) = false := by simp
              clear hok hx hr1 hr2
              cases hsn : seenB node k x
              · rw [hsn] at cx
                obtain ⟨e1, e2⟩ := seen_new (N := N) HXE.out hsn hxN
                have HE1 : Hid (∀ i, seenB node (k + 1) i = if i = x then true else seenB node k i) := e1
                have HE2 : Hid (cntB (seenB node (k + 1)) N = cntB (seenB node k) N + 1) := e2
                clear hsn e1 e2
                go_wp2
                go_roundw
                case rel => exact ⟨k + 1, by omega, by go_num, by rw [HE2.out]; go_num, HBK.out.setCell (by show w.heap.size ≤ mb; exact hmb) _, (HOK.out.set x hxN (.bool true)).congr (fun i hi => by
                  rw [HE1.out i]; by_cases e : i = x <;> simp [e]), HK2⟩
                case measure => simp [intOf]; omega
              · rw [hsn] at cx
                obtain ⟨e1, e2⟩ := seen_again (N := N) HXE.out hsn
                have HE1 : Hid (∀ i, seenB node (k + 1) i = seenB node k i) := e1
                have HE2 : Hid (cntB (seenB node (k + 1)) N = cntB (seenB node k) N) := e2
                clear hsn e1 e2
                go_wp2
                go_roundw
                case rel => exact ⟨k + 1, by omega, by go_num, by rw [HE2.out], HBK.out, HOK.out.congr (fun i hi => by rw [HE1.out i]), HK2⟩
                case measure => simp [intOf]; omega
            · by_cases hneg : node k < 0
              · clear hr
                go_wp2
                go_ret
                exact ⟨false, rfl, (fun h => by cases h), HBK.out⟩
              · have hge : (N : Int) ≤ node k := by omega
                have hdf : decide (node k < 0) = false := by simpa using hneg
                clear hr hneg
                go_wp2
                go_ret
                exact ⟨false, rfl, (fun h => by cases h), HBK.out⟩
          · obtain rfl : k = n := by omega
            go_wp2
            go_ret
            refine ⟨_, rfl, (fun h => ?_), hbk⟩
            have h2 : cntB (seenB node k) N = N := by
              have := beq_iff_eq.1 h
              omega
            exact ⟨rfl, HSO.out, HK.out, fun x hx => seenB_mem node x k (cntB_all N h2 x hx)⟩
  · have hne : ((n : Int) != (m : Int)) = true := by rw [bne_iff_ne]; omega
    have HNM : Hid (¬ n = m) := hnm
    clear hnm
    go_enter Tryd.func12, Tryd.ntmps12
    go_wp2
    go_ret
    exact ⟨false, rfl, (fun h => by cases h), Below.refl _ _⟩
end Go.Proofs.Qxb6608942aDoor
