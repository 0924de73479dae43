/-
  The sequence of a relative lock: the program's answer is the reference's: for every bool and every 32-bit number (numbers from 2^25 on, and from 2^16 on where blocks are meant, are let alone by the statement itself).
-/
import Derived.Test.YtnjpaldgnhhmjaaPFnRelativeLockx1
namespace Go.Proofs.Ytnjpaldgnhhmjaa.Pure
open Go.RowKit Go.Proofs.Ytnjpaldgnhhmjaa.PFnRelativeLock Go.Proofs.YtnjpaldgnhhmjaaW.PrintWords Go.Proofs.YtnjpaldgnhhmjaaW.PrintLast

theorem FnRelativeLock : laws_FnRelativeLock.Pure := by
  intro a0 a1 h1
  have hb : 0 ≤ a1 ∧ a1 < 4294967296 := by
    simp [Lit.wf] at h1
    have e1 : IntKind.u32.min = 0 := by decide
    have e2 : IntKind.u32.max = 4294967295 := by decide
    omega
  have hd : (Int.tdiv a1 512) % 4294967296 = a1 / 512 := by
    rw [Int.tdiv_eq_ediv_of_nonneg hb.1]
    omega
  have hj : ∀ b, laws_FnRelativeLock.j0 1 a0 a1 b = some true := by
    intro b
    cases b <;> cases a0 <;> simp [laws_FnRelativeLock.j0, impl_RelativeLock.f, spec_RelativeLock.f, blockchain_LockTimeToSequence.f, hd]
  refine ⟨1, ?_⟩
  unfold laws_FnRelativeLock.f
  simp only [hj]
  split <;> simp

end Go.Proofs.Ytnjpaldgnhhmjaa.Pure
