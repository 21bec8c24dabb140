/- The two masks of a range, as numbers, are the lengths of its two parts, with the two special cases that the statement tells. Conditions: none (begin behind end is let by, as the statement says). -/
import Derived.Test.YtmcelgfekffinaaDec
import Derived.Test.YtmcelgfekffinaaQx1
namespace Go.Proofs.Ytmcelgfekffinaa.Pure
open Go.RowKit Go.Proofs.Ytmcelgfekffinaa.Q Go.Proofs.YtmcelgfekffinaaW.PrintWords Go.Proofs.YtmcelgfekffinaaW.PrintLast

theorem FnDecomposeSum : laws_FnDecomposeSum.Pure := by
  intro a0 a1 w0 w1
  have b0 := bounds_u64 w0
  have b1 := bounds_u64 w1
  obtain ⟨b, rfl⟩ := Int.eq_ofNat_of_zero_le b0.1
  obtain ⟨e, rfl⟩ := Int.eq_ofNat_of_zero_le b1.1
  refine ⟨1, ?_⟩
  unfold laws_FnDecomposeSum.f
  by_cases hbe : (b : Int) > (e : Int)
  · rw [if_pos hbe]
  rw [if_neg hbe]
  obtain ⟨L, R, M, d, hf, hm⟩ := decompose_of b e (by omega) (by omega)
  obtain ⟨hlo, hhi, _, _, _, _, hz, hp⟩ := hm
  unfold impl_Decompose.f
  rw [hf]
  simp only [Option.bind_some]
  have hsum : (IntKind.u64.wrap ((L : Int) + (R : Int)) == IntKind.u64.wrap ((e : Int) - (b : Int))) = true := by
    rw [wu64 (by omega) (by omega), wu64 (by omega) (by omega), beq_iff_eq]; omega
  have key : laws_FnDecomposeSum.j0 1 (b : Int) (e : Int) (L : Int) (R : Int) false = some true := by
    simp only [laws_FnDecomposeSum.j0, hsum]
    rw [if_neg (by decide)]
    by_cases h1 : Go.bits .and .u64 (e : Int) (IntKind.u64.wrap ((e : Int) - 1)) = 0
    · rw [if_pos h1]
      by_cases h2 : (b : Int) > 0
      · rw [if_pos h2]
        have h3 : e &&& (e - 1) = 0 := by
          rw [show IntKind.u64.wrap ((e : Int) - 1) = ((e - 1 : Nat) : Int) by rw [wu64 (by omega) (by omega)]; omega, bits_and_u64_nat _ _ (by omega) (by omega)] at h1
          omega
        obtain ⟨t, ht⟩ := Ytmcelgfekffinaa.M.pow_of_and (by omega) h3
        rw [if_pos (by have := hp (by omega) t ht; omega)]
      · rw [if_neg h2]
    · rw [if_neg h1]
  by_cases hb : (b : Int) = 0
  · rw [if_pos hb, if_pos (by have := hz (by omega); omega)]
    have : ((R : Int) != (e : Int)) = false := by
      rw [bne_eq_false_iff_eq]; have := hz (by omega); omega
    rw [this]
    exact key
  · rw [if_neg hb]
    exact key

end Go.Proofs.Ytmcelgfekffinaa.Pure
