/- The plain law of FnVerifyInclusionFar. -/
import Derived.Test.YtfhcpniibiobgaaPm
namespace Go.Proofs.Ytfhcpniibiobgaa.Pure
open Go.RowKit Go.Proofs.YtfhcpniibiobgaaW.PrintWords Go.Proofs.YtfhcpniibiobgaaW.PrintMore Go.Proofs.YtfhcpniibiobgaaW.PrintLast
open Go.Proofs.Ytfhcpniibiobgaa.M (vlen inn pc)

theorem nat_of_wf {x : Int} (h : (Lit.int .u64 x).wf = true) : ∃ n : Nat, x = (n : Int) ∧ n < 18446744073709551616 := by
  have h2 : IntKind.u64.min ≤ x ∧ x ≤ IntKind.u64.max := by simpa [Lit.wf] using h
  have e1 : IntKind.u64.min = 0 := rfl
  have e2 : IntKind.u64.max = 18446744073709551615 := rfl
  exact ⟨x.toNat, by omega, by omega⟩

/-- What the program answers, the tests ahead passed. -/
theorem viF_at (a0 a1 a2 a3 a4 a5 : Int) (x n : Nat) (hn : n < 18446744073709551616) (l : List Int) (L : List (List Int)) (r : List Int) (hl : l.length ≤ 5000) (hla : (l.length : Int) = a1) (hr : r.length ≤ 2147483647) (hL : L.length ≤ 300) (hrow : ∀ h ∈ L, h.length ≤ 5000) :
    Qf.viF a0 a1 a2 a3 a4 a5 (x : Int) (n : Int) l L r =
      if n ≤ x ∨ L.length ≠ inn x n + pc 64 (x / 2 ^ inn x n) then some (2, []) else
      if Qf.sameB (chB a0 a2 a5 (L.drop (inn x n)) (chI a0 a2 a5 (x : Int) (L.take (inn x n)) l 0)) r then some (0, []) else some (1, chB a0 a2 a5 (L.drop (inn x n)) (chI a0 a2 a5 (x : Int) (L.take (inn x n)) l 0)) := by
  unfold Qf.viF
  rw [if_pos ⟨by omega, by omega, by omega, fun h hh => by have := hrow h hh; omega⟩]
  by_cases hx : n ≤ x
  · rw [if_pos (by omega), if_pos (.inl hx)]
  · rw [if_neg (by omega), if_neg (by simpa using hla), decomp_f x n (by omega) hn, Option.bind_some]
    have h64 := inn_le x n (by omega) hn
    have hp := pc_le 64 (x / 2 ^ inn x n)
    generalize inn x n = m at *
    generalize pc 64 (x / 2 ^ m) = b at *
    dsimp only
    rw [if_pos ⟨by omega, by omega, by omega, by omega⟩]
    by_cases hc : L.length ≠ m + b
    · rw [if_pos (by omega), if_pos (.inr hc)]
    · rw [if_neg (by omega), if_neg (by omega), Int.toNat_natCast]
      have ht : ∀ h ∈ L.take m, h.length ≤ 5000 := fun h hh => hrow h (List.mem_of_mem_take hh)
      have hd : ∀ h ∈ L.drop m, h.length ≤ 5000 := fun h hh => hrow h (List.mem_of_mem_drop hh)
      have lt : (L.take m).length ≤ 300 := by rw [List.length_take]; omega
      have ld : (L.drop m).length ≤ 300 := by rw [List.length_drop]; omega
      have e1 := chI_len a0 a2 a5 (x : Int) (L.take m) l 0 ht
      rw [toyI a0 a1 a2 a3 a4 a5 (x : Int) (L.take m) l 0 ht (by omega), Option.bind_some, toyB a0 a1 a2 a3 a4 a5 (L.drop m) _ hd (by omega), Option.bind_some]
      have e2 := chB_len a0 a2 a5 (L.drop m) (chI a0 a2 a5 (x : Int) (L.take m) l 0) hd
      by_cases hs : Qf.sameB (chB a0 a2 a5 (L.drop m) (chI a0 a2 a5 (x : Int) (L.take m) l 0)) r = true
      · rw [if_pos hs, if_pos hs]
      · rw [if_neg hs, if_neg hs, if_pos (by omega)]
theorem verifyFar (a0 a1 a2 a3 a4 a5 ix sz : Int) (b3 : List Int) (b4 : List (List Int)) (b5 : List Int) (_w0 : (Lit.int .i64 a0).wf = true) (_w1 : (Lit.int .i64 a1).wf = true) (_w2 : (Lit.int .i64 a2).wf = true) (_w3 : (Lit.int .u64 a3).wf = true) (_w4 : (Lit.int .u64 a4).wf = true) (_w5 : (Lit.int .u64 a5).wf = true) (wi : (Lit.int .u64 ix).wf = true) (ws : (Lit.int .u64 sz).wf = true) (_f3 : ∀ n ∈ b3, (Lit.int .u8 n).wf = true) (_f4 : ∀ r ∈ b4, ∀ n ∈ r, (Lit.int .u8 n).wf = true) (_f5 : ∀ n ∈ b5, (Lit.int .u8 n).wf = true) :
    ∃ k, Qg.laws_FnVerifyInclusionFar.f k a0 a1 a2 a3 a4 a5 ix sz b3 b4 b5 = some true := by
  obtain ⟨x, rfl, hx⟩ := nat_of_wf wi
  obtain ⟨n, rfl, hn⟩ := nat_of_wf ws
  have j0 : ∀ k, Qg.laws_FnVerifyInclusionFar.j0 (k + 1) (x : Int) (n : Int) b3 b4 b5 true a0 a1 a2 a3 a4 a5 = some true := fun k => by rw [Qg.laws_FnVerifyInclusionFar.j0, if_pos rfl]
  have j1 : ∀ k, Qg.laws_FnVerifyInclusionFar.j1 (k + 1) (x : Int) (n : Int) b3 b4 b5 true a0 a1 a2 a3 a4 a5 = some true := fun k => by rw [Qg.laws_FnVerifyInclusionFar.j1, if_pos rfl]
  obtain ⟨K, hK⟩ : ∃ K, K = 3000000000 := ⟨_, rfl⟩
  refine ⟨K + 1 + 1 + 1, ?_⟩
  unfold Qg.laws_FnVerifyInclusionFar.f
  by_cases c1 : (b3.length : Int) > 2147483647
  · rw [if_pos c1]
    exact j0 _
  rw [if_neg c1]
  obtain ⟨z, hz, hzt⟩ := zz_f b4 (K + 1 + 1 + 1) (by omega)
  rw [hz, Option.bind_some]
  cases z
  · rw [if_neg (by simp)]
    exact j0 _
  rw [if_pos rfl]
  by_cases c2 : (b5.length : Int) > 2147483647
  · rw [decide_eq_true c2]
    exact j0 _
  rw [decide_eq_false c2, Qg.laws_FnVerifyInclusionFar.j0, if_neg (by simp)]
  obtain ⟨s, hs, hst⟩ := small_f b4 (hzt rfl) (K + 1 + 1) (by omega)
  rw [hs, Option.bind_some]
  cases s
  · rw [if_neg (by simp)]
    exact j1 _
  rw [if_pos rfl]
  by_cases c3 : (b3.length : Int) = a1
  case neg => rw [if_neg c3]; exact j1 _
  rw [if_pos c3]
  by_cases c4 : (b3.length : Int) > 5000
  · rw [decide_eq_true c4]
    exact j1 _
  obtain ⟨q1, q2⟩ := hst rfl
  rw [decide_eq_false c4, Qg.laws_FnVerifyInclusionFar.j1, if_neg (by simp)]
  have hv := viF_at a0 a1 a2 a3 a4 a5 x n hn b3 b4 b5 (by omega) c3 (by omega) q1 q2
  have hv' : Qg.impl_VerifyInclusion.f a0 a1 a2 a3 a4 a5 (x : Int) (n : Int) b3 b4 b5 = _ := hv
  rw [hv']
  clear hv hv'
  have two : ∀ k, Qg.laws_FnVerifyInclusionFar.j2 (k + 1) (x : Int) (n : Int) b3 b4 b5 2 true a0 a1 a2 a3 a4 a5 = some true := fun k => by rw [Qg.laws_FnVerifyInclusionFar.j2, if_pos rfl]; rfl
  by_cases hge : n ≤ x
  · rw [if_pos (.inl hge), Option.bind_some, if_pos (by omega)]
    exact two _
  obtain ⟨t, ht, htl, _⟩ := path_go x 64 0 n (K + 1) (Nat.le_refl _) (Nat.zero_le _) (by omega) hn (by omega) (by omega)
  have hpp : Qg.spec_PathParts.f (K + 1) (x : Int) (n : Int) = some t := by
    unfold Qg.spec_PathParts.f
    rw [show (0 : Int) = ((0 : Nat) : Int) from rfl, ht]
    rfl
  have h64 := inn_le x n (by omega) hn
  have hp := pc_le 64 (x / 2 ^ inn x n)
  have htl2 : t.length = inn x n + pc 64 (x / 2 ^ inn x n) := htl
  have hin : Qg.spec_Inner.f K (x : Int) (n : Int) = some ((inn x n : Nat) : Int) := inner_go x n (by omega) hn (inn x n) 0 K (by omega) (by omega)
  generalize inn x n = m at *
  generalize pc 64 (x / 2 ^ m) = b at *
  by_cases hc : b4.length ≠ m + b
  · have hne : ((b4.length : Int) != (t.length : Int)) = true := by
      rw [bne_iff_ne]
      omega
    rw [if_pos (.inr hc), Option.bind_some, if_neg (by omega), hpp, Option.bind_some, hne]
    exact two _
  have heq : ((b4.length : Int) != (t.length : Int)) = false := by
    have : (b4.length : Int) = (t.length : Int) := by omega
    rw [this]
    simp
  have lt : (b4.take m).length = m := by rw [List.length_take]; omega
  have ld : (b4.drop m).length = b := by rw [List.length_drop]; omega
  have r1 : ∀ h ∈ b4.take m, h.length ≤ 5000 := fun h hh => q2 h (List.mem_of_mem_take hh)
  have r2 : ∀ h ∈ b4.drop m, h.length ≤ 5000 := fun h hh => q2 h (List.mem_of_mem_drop hh)
  have s1 : Qg.spec_Chained.f K a0 a1 a2 a3 a4 a5 b3 (b4.take m) (x : Int) false = some (chI a0 a2 a5 (x : Int) (b4.take m) b3 0) := by
    have h := specS a0 a1 a2 a3 a4 a5 (x : Int) false (b4.take m) r1 (by omega) (b4.take m).length 0 K b3 (by omega) (by omega) (by omega)
    rw [List.drop_zero, chS_inner a0 a2 a5 x hx] at h
    exact h
  have e1 := chI_len a0 a2 a5 (x : Int) (b4.take m) b3 0 r1
  generalize chI a0 a2 a5 (x : Int) (b4.take m) b3 0 = q at *
  have s2 : Qg.spec_Chained.f K a0 a1 a2 a3 a4 a5 q (b4.drop m) 18446744073709551615 true = some (chB a0 a2 a5 (b4.drop m) q) := by
    have h := specS a0 a1 a2 a3 a4 a5 18446744073709551615 true (b4.drop m) r2 (by omega) (b4.drop m).length 0 K q (by omega) (by omega) (by omega)
    rw [List.drop_zero, chS_border a0 a2 a5 (b4.drop m) q 0 (by omega)] at h
    exact h
  generalize chB a0 a2 a5 (b4.drop m) q = r at *
  have hrest : ∀ g : Int, Qg.laws_FnVerifyInclusionFar.j2 (K + 1) (x : Int) (n : Int) b3 b4 b5 g false a0 a1 a2 a3 a4 a5 = (if g = 0 then ((Qg.spec_SameText.f r b5).bind fun t200 => (if t200 = true then (some true) else (if g = 1 then ((Qg.spec_SameText.f r b5).bind fun t201 => (some (!t201))) else (some false)))) else (if g = 1 then ((Qg.spec_SameText.f r b5).bind fun t202 => (some (!t202))) else (some false))) := fun g => by
    rw [Qg.laws_FnVerifyInclusionFar.j2, if_neg (by simp), hin, Option.bind_some, if_pos (by omega), if_pos (by omega), Int.toNat_natCast, s1, Option.bind_some, s2, Option.bind_some]
  have hst2 : Qg.spec_SameText.f r b5 = some (Qf.sameB r b5) := rfl
  rw [if_neg (by omega)]
  by_cases hs : Qf.sameB r b5 = true
  · rw [if_pos hs, Option.bind_some, if_neg (by omega), hpp, Option.bind_some, heq, hrest, if_pos rfl, hst2, hs, Option.bind_some, if_pos rfl]
  · have hs' : Qf.sameB r b5 = false := by simpa using hs
    rw [if_neg hs, Option.bind_some, if_neg (by omega), hpp, Option.bind_some, heq, hrest, if_neg (show ¬ ((1 : Int) = 0) by decide), if_pos rfl, hst2, hs', Option.bind_some]
    rfl
end Go.Proofs.Ytfhcpniibiobgaa.Pure
