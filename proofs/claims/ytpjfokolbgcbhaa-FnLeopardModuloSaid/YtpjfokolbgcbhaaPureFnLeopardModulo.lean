/- The program's modular sum and difference of two bytes (modulo 255, where 255 may stand for 0) are the ones that the statement tells. Conditions: none, all pairs of bytes. -/
import Derived.Test.YtpjfokolbgcbhaaPFnLeopardModulox1
import Derived.OpenShut
namespace Go.Proofs.Ytpjfokolbgcbhaa.Pure
open Go.RowKit Go.Proofs.Ytpjfokolbgcbhaa.PFnLeopardModulo Go.Proofs.YtpjfokolbgcbhaaW.PrintWords Go.Proofs.YtpjfokolbgcbhaaW.PrintLast

theorem wrap64_of {n : Int} (h0 : -9223372036854775808 ≤ n) (h1 : n ≤ 9223372036854775807) : wrap64 n = n := by
  unfold wrap64; omega

theorem wrapu_of {n : Int} (h0 : 0 ≤ n) (h1 : n < 18446744073709551616) : IntKind.u64.wrap n = n := by
  show n % 18446744073709551616 = n
  omega

theorem byte_of {a : Int} (h : (Lit.int .u8 a).wf = true) : 0 ≤ a ∧ a ≤ 255 := by
  exact bounds_u8 h

theorem add_of {a b : Int} (ha : 0 ≤ a ∧ a ≤ 255) (hb : 0 ≤ b ∧ b ≤ 255) : reedsolomon_addMod8.f a b = some (if a + b > 255 then a + b - 255 else a + b) := by
  unfold reedsolomon_addMod8.f
  rw [wrapu_of (n := a) (by omega) (by omega), wrapu_of (n := b) (by omega) (by omega), wrapu_of (n := a + b) (by omega) (by omega), wrapu_of (by omega) (by omega)]
  congr 1
  split <;> omega

theorem sub_of {a b : Int} (ha : 0 ≤ a ∧ a ≤ 255) (hb : 0 ≤ b ∧ b ≤ 255) : reedsolomon_subMod8.f a b = some (if a - b < 0 then a - b + 255 else a - b) := by
  unfold reedsolomon_subMod8.f
  rw [wrapu_of (n := a) (by omega) (by omega), wrapu_of (n := b) (by omega) (by omega)]
  congr 1
  show ((a - b) % 18446744073709551616 + (a - b) % 18446744073709551616 / 256) % 18446744073709551616 % 256 = _
  split <;> omega

theorem FnLeopardModulo : laws_FnLeopardModulo.Pure := by
  intro a b wa wb
  have ha := byte_of wa
  have hb := byte_of wb
  refine ⟨1, ?_⟩
  unfold laws_FnLeopardModulo.f
  rw [wrap64_of (n := a) (by omega) (by omega), wrap64_of (n := b) (by omega) (by omega), wrap64_of (n := a + b) (by omega) (by omega), wrap64_of (n := a - b) (by omega) (by omega), wrap64_of (n := a + b - 255) (by omega) (by omega)]
  simp only [laws_FnLeopardModulo.j0, impl_AddMod8.f, impl_SubMod8.f, reedsolomon_DoorAddMod.f, reedsolomon_DoorSubMod.f, add_of ha hb, sub_of ha hb, Option.bind_some]
  rw [wrap64_of (n := a - b + 255) (by omega) (by omega)]
  by_cases h1 : a + b > 255 <;> by_cases h2 : a - b < 0 <;> simp only [h1, h2, if_true, if_false] <;>
    (rw [wrap64_of (by omega) (by omega), wrap64_of (by omega) (by omega)]; simp)

end Go.Proofs.Ytpjfokolbgcbhaa.Pure
