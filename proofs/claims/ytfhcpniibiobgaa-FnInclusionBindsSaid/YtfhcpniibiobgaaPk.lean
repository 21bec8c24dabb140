/- The length of the reference's path: plain. -/
import Derived.Test.YtfhcpniibiobgaaPj
import Derived.Test.YtfhcpniibiobgaaPv
namespace Go.Proofs.Ytfhcpniibiobgaa.Pure
open Go.RowKit Go.Proofs.YtfhcpniibiobgaaW.PrintWords Go.Proofs.YtfhcpniibiobgaaW.PrintMore Go.Proofs.YtfhcpniibiobgaaW.PrintLast
open Go.Proofs.Ytfhcpniibiobgaa.M (vlen inn vlen_left vlen_right vlen_one)

theorem wu (n : Int) (h : 0 ≤ n ∧ n < 18446744073709551616) : IntKind.u64.wrap n = n := by
  show n % 18446744073709551616 = n
  omega
theorem vlen_pow : ∀ (t i : Nat), t < 64 → i < 2 ^ t → vlen i (2 ^ t) = t
  | 0, i, _, h => by
    obtain rfl : i = 0 := by simpa using h
    exact vlen_one
  | t + 1, i, ht, h => by
    have hq : 2 ^ (t + 1) = 2 * 2 ^ t := by rw [Nat.pow_succ, Nat.mul_comm]
    have hp := Nat.two_pow_pos t
    have h64 : 2 ^ (t + 1) < 2 ^ 64 := Nat.pow_lt_pow_right (by omega) (by omega)
    by_cases hi : i < 2 ^ t
    · exact vlen_left (by omega) hi (by omega) (Nat.le_refl _) h64
    · rw [vlen_right (by omega) (by omega) h (Nat.le_refl _), show 2 ^ (t + 1) - 2 ^ t = 2 ^ t by omega, vlen_pow t (i - 2 ^ t) (by omega) (by omega)]
theorem split_go (n t : Nat) (hn : n < 18446744073709551616) (h1 : 2 ^ t < n) (h2 : n ≤ 2 ^ (t + 1)) : ∀ (d j k : Nat), j + d = t → d < k → Qg.spec_split.l0 k (n : Int) ((2 ^ j : Nat) : Int) = some ((2 ^ t : Nat) : Int)
  | 0, j, k + 1, hj, _ => by
    obtain rfl : j = t := by omega
    have hq : 2 ^ (j + 1) = 2 * 2 ^ j := by rw [Nat.pow_succ, Nat.mul_comm]
    rw [Qg.spec_split.l0, wu _ (by omega), if_neg (by omega)]
  | d + 1, j, k + 1, hj, hk => by
    have hq : 2 ^ (j + 1) = 2 * 2 ^ j := by rw [Nat.pow_succ, Nat.mul_comm]
    have hle : 2 ^ (j + 1) ≤ 2 ^ t := Nat.pow_le_pow_right (by omega) (by omega)
    rw [Qg.spec_split.l0, wu _ (by omega), if_pos (by omega), wu _ (by omega), show (((2 ^ j : Nat) : Int) * 2) = ((2 ^ (j + 1) : Nat) : Int) by omega]
    exact split_go n t hn h1 h2 d (j + 1) k (by omega) (by omega)
theorem log_at (n : Nat) (h : 2 ≤ n) (hn : n < 18446744073709551616) : ∃ t, t < 64 ∧ 2 ^ t < n ∧ n ≤ 2 ^ (t + 1) := by
  have a := Nat.log2_self_le (show n - 1 ≠ 0 by omega)
  have b := Nat.lt_log2_self (n := n - 1)
  refine ⟨Nat.log2 (n - 1), ?_, by omega, by omega⟩
  have : 2 ^ Nat.log2 (n - 1) < 2 ^ 64 := by omega
  exact (Nat.pow_lt_pow_iff_right (by omega)).1 this
theorem path_go (x : Nat) : ∀ (T b e k : Nat), T ≤ 64 → b ≤ x → x < e → e < 18446744073709551616 → e - b ≤ 2 ^ T → T + 70 ≤ k → ∃ l, Qg.spec_pathIn.f k (x : Int) (b : Int) (e : Int) = some l ∧ l.length = vlen (x - b) (e - b) ∧ l.length ≤ T
  | T, b, e, k, hT, hb, he, he64, hw, hk => by
    obtain ⟨k, rfl⟩ : ∃ k', k = k' + 1 := ⟨k - 1, by omega⟩
    have w1 : IntKind.u64.wrap ((e : Int) - (b : Int)) = ((e - b : Nat) : Int) := by rw [wu _ (by omega)]; omega
    rw [Qg.spec_pathIn.f, w1]
    by_cases h1 : e - b = 1
    · rw [if_pos (by omega), h1, show x - b = 0 by omega, vlen_one]
      exact ⟨[], rfl, rfl, Nat.zero_le _⟩
    · rw [if_neg (by omega)]
      obtain ⟨t, ht, g1, g2⟩ := log_at (e - b) (by omega) (by omega)
      have hp := Nat.two_pow_pos t
      have hsp : Qg.spec_split.f k ((e - b : Nat) : Int) = some ((2 ^ t : Nat) : Int) := split_go (e - b) t (by omega) g1 g2 t 0 k (by omega) (by omega)
      have htT : t < T := (Nat.pow_lt_pow_iff_right (by omega : 1 < 2)).1 (Nat.lt_of_lt_of_le g1 hw)
      obtain ⟨T, rfl⟩ : ∃ T', T = T' + 1 := ⟨T - 1, by omega⟩
      have hle : 2 ^ t ≤ 2 ^ T := Nat.pow_le_pow_right (by omega) (by omega)
      have w2 : IntKind.u64.wrap ((b : Int) + ((2 ^ t : Nat) : Int)) = ((b + 2 ^ t : Nat) : Int) := by rw [wu _ (by omega)]; omega
      rw [hsp, Option.bind_some, w2]
      by_cases hx : x < b + 2 ^ t
      · rw [if_pos (by omega)]
        obtain ⟨l, hl, hlen, hlT⟩ := path_go x T b (b + 2 ^ t) k (by omega) hb hx (by omega) (by omega) (by omega)
        rw [hl, Option.bind_some, Option.bind_some, if_pos (by simp; omega)]
        refine ⟨_, rfl, ?_, by simp; omega⟩
        rw [List.length_append, hlen, show b + 2 ^ t - b = 2 ^ t by omega, vlen_pow t (x - b) ht (by omega), vlen_left ht (by omega) g1 g2 (by omega)]
        rfl
      · rw [if_neg (by omega)]
        have hq : 2 ^ (t + 1) = 2 * 2 ^ t := by rw [Nat.pow_succ, Nat.mul_comm]
        obtain ⟨l, hl, hlen, hlT⟩ := path_go x T (b + 2 ^ t) e k (by omega) (by omega) he he64 (by omega) (by omega)
        rw [hl, Option.bind_some, Option.bind_some, if_pos (by simp; omega)]
        refine ⟨_, rfl, ?_, by simp; omega⟩
        rw [List.length_append, hlen, vlen_right (i := x - b) (n := e - b) ht (by omega) (by omega) g2, show x - b - 2 ^ t = x - (b + 2 ^ t) by omega, show e - b - 2 ^ t = e - (b + 2 ^ t) by omega]
        rfl
termination_by T => T
end Go.Proofs.Ytfhcpniibiobgaa.Pure
