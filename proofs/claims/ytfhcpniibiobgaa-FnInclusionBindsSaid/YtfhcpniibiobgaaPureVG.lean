/- What the program answers at an audit path: plain. -/
import Derived.Test.YtfhcpniibiobgaaPm
namespace Go.Proofs.Ytfhcpniibiobgaa.Pure
open Go.RowKit Go.Proofs.YtfhcpniibiobgaaW.PrintWords Go.Proofs.YtfhcpniibiobgaaW.PrintMore Go.Proofs.YtfhcpniibiobgaaW.PrintLast
open Go.Proofs.Ytfhcpniibiobgaa.M (vlen inn pc)

theorem nat_of_wf {x : Int} (h : (Lit.int .u64 x).wf = true) : ∃ n : Nat, x = (n : Int) ∧ n < 18446744073709551616 := by
  have h2 : IntKind.u64.min ≤ x ∧ x ≤ IntKind.u64.max := by simpa [Lit.wf] using h
  have e1 : IntKind.u64.min = 0 := rfl
  have e2 : IntKind.u64.max = 18446744073709551615 := rfl
  exact ⟨x.toNat, by omega, by omega⟩

/-- What the program answers, the tests ahead passed. -/
theorem viF_at (a0 a1 a2 a3 a4 a5 : Int) (x n : Nat) (hn : n < 18446744073709551616) (l : List Int) (L : List (List Int)) (r : List Int) (hl : l.length ≤ 5000) (hla : (l.length : Int) = a1) (hr : r.length ≤ 2147483647) (hL : L.length ≤ 300) (hrow : ∀ h ∈ L, h.length ≤ 5000) :
    Qf.viF a0 a1 a2 a3 a4 a5 (x : Int) (n : Int) l L r =
      if n ≤ x ∨ L.length ≠ inn x n + pc 64 (x / 2 ^ inn x n) then some (2, []) else
      if Qf.sameB (chB a0 a2 a5 (L.drop (inn x n)) (chI a0 a2 a5 (x : Int) (L.take (inn x n)) l 0)) r then some (0, []) else some (1, chB a0 a2 a5 (L.drop (inn x n)) (chI a0 a2 a5 (x : Int) (L.take (inn x n)) l 0)) := by
  unfold Qf.viF
  rw [if_pos ⟨by omega, by omega, by omega, fun h hh => by have := hrow h hh; omega⟩]
  by_cases hx : n ≤ x
  · rw [if_pos (by omega), if_pos (.inl hx)]
  · rw [if_neg (by omega), if_neg (by simpa using hla), decomp_f x n (by omega) hn, Option.bind_some]
    have h64 := inn_le x n (by omega) hn
    have hp := pc_le 64 (x / 2 ^ inn x n)
    generalize inn x n = m at *
    generalize pc 64 (x / 2 ^ m) = b at *
    dsimp only
    rw [if_pos ⟨by omega, by omega, by omega, by omega⟩]
    by_cases hc : L.length ≠ m + b
    · rw [if_pos (by omega), if_pos (.inr hc)]
    · rw [if_neg (by omega), if_neg (by omega), Int.toNat_natCast]
      have ht : ∀ h ∈ L.take m, h.length ≤ 5000 := fun h hh => hrow h (List.mem_of_mem_take hh)
      have hd : ∀ h ∈ L.drop m, h.length ≤ 5000 := fun h hh => hrow h (List.mem_of_mem_drop hh)
      have lt : (L.take m).length ≤ 300 := by rw [List.length_take]; omega
      have ld : (L.drop m).length ≤ 300 := by rw [List.length_drop]; omega
      have e1 := chI_len a0 a2 a5 (x : Int) (L.take m) l 0 ht
      rw [toyI a0 a1 a2 a3 a4 a5 (x : Int) (L.take m) l 0 ht (by omega), Option.bind_some, toyB a0 a1 a2 a3 a4 a5 (L.drop m) _ hd (by omega), Option.bind_some]
      have e2 := chB_len a0 a2 a5 (L.drop m) (chI a0 a2 a5 (x : Int) (L.take m) l 0) hd
      by_cases hs : Qf.sameB (chB a0 a2 a5 (L.drop m) (chI a0 a2 a5 (x : Int) (L.take m) l 0)) r = true
      · rw [if_pos hs, if_pos hs]
      · rw [if_neg hs, if_neg hs, if_pos (by omega)]
end Go.Proofs.Ytfhcpniibiobgaa.Pure
