import Derived.Test.Qxb6608942aDoorFrame
namespace Go.Proofs.Qxb6608942aDoor

theorem wf_pos_bd {n : Int} (h : (Lit.int .u64 n).wf = true) : 0 ≤ n ∧ n < 18446744073709551616 := by
  have hmin : IntKind.u64.min = 0 := rfl
  have hmax : IntKind.u64.max = 18446744073709551615 := rfl
  simp only [Lit.wf, Bool.and_eq_true, decide_eq_true_eq] at h
  omega

end Go.Proofs.Qxb6608942aDoor
