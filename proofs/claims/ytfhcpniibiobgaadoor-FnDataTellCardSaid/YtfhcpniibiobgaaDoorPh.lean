/- The two hash functions are one: plain. -/
import Derived.Test.YtfhcpniibiobgaaDoorNh
namespace Go.Proofs.YtfhcpniibiobgaaDoor.Pure
open Go.RowKit

/-- The hash of two children. -/
def hcF (a0 a2 a5 : Int) (l1 l2 : List Int) : List Int :=
  if a0 = 1 then Hs.wordF (Hs.mixF a5 (l1 ++ [255] ++ l2)) a2 else [1] ++ Hs.wordF (l1.length : Int) 8 ++ l1 ++ l2
theorem wordF_len (w n : Int) : (Hs.wordF w n).length ≤ 8 := by
  unfold Hs.wordF
  rw [List.length_map, List.length_range]
  exact (Hs.wn_pos n).2
theorem hcF_len (a0 a2 a5 : Int) (l1 l2 : List Int) : (hcF a0 a2 a5 l1 l2).length ≤ l1.length + l2.length + 9 := by
  unfold hcF
  split
  · have := wordF_len (Hs.mixF a5 (l1 ++ [255] ++ l2)) a2
    omega
  · have := wordF_len (l1.length : Int) 8
    simp only [List.length_append, List.length_cons, List.length_nil]
    omega
theorem toyHC (a0 a1 a2 a3 a4 a5 : Int) (l1 l2 : List Int) (h1 : l1.length ≤ 10000000000000) (h2 : l2.length ≤ 10000000000000) : Qf.impl_toy_HashChildren.f a0 a1 a2 a3 a4 a5 l1 l2 = some (hcF a0 a2 a5 l1 l2) := by
  unfold Qf.impl_toy_HashChildren.f hcF
  by_cases h : a0 = 1
  · rw [if_pos h, if_pos h]
    simp only [Qf.impl_mixed.f, Qf.impl_word.f]
    rw [if_pos (by omega)]
    simp only [Option.bind_some]
    rw [if_pos (by simp)]
    simp only [Option.bind_some]
    rw [if_pos (by omega)]
    simp only [Option.bind_some]
    congr 2
    unfold Hs.mixF
    rw [List.foldl_append, List.foldl_append]
  · rw [if_neg h, if_neg h]
    have hw : IntKind.u64.wrap (l1.length : Int) = l1.length := by
      show ((l1.length : Int)) % 18446744073709551616 = l1.length
      omega
    have hl := wordF_len (l1.length : Int) 8
    simp only [Option.bind_some, Qf.impl_word.f, hw]
    rw [if_pos (by simp only [List.length_cons, List.length_nil]; omega), if_pos (by simp only [List.length_append, List.length_cons, List.length_nil]; omega), if_pos (by simp only [List.length_append, List.length_cons, List.length_nil]; omega)]

theorem w64p (n : Int) (h : -9223372036854775808 ≤ n ∧ n ≤ 9223372036854775807) : wrap64 n = n := by unfold wrap64; omega
end Go.Proofs.YtfhcpniibiobgaaDoor.Pure
