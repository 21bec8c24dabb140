/- Several texts, joined. -/
import Derived.Test.YtfhcpniibiobgaaDoorEa
import Derived.Test.YtfhcpniibiobgaaDoorJr
namespace Go.Proofs.YtfhcpniibiobgaaDoor.Pure
open Go.RowKit

/-- The hash of two children. -/
def hcF (a0 a2 a5 : Int) (l1 l2 : List Int) : List Int :=
  if a0 = 1 then Hs.wordF (Hs.mixF a5 (l1 ++ [255] ++ l2)) a2 else [1] ++ Hs.wordF (l1.length : Int) 8 ++ l1 ++ l2
theorem wordF_len (w n : Int) : (Hs.wordF w n).length ≤ 8 := by
  unfold Hs.wordF
  rw [List.length_map, List.length_range]
  exact (Hs.wn_pos n).2
theorem hcF_len (a0 a2 a5 : Int) (l1 l2 : List Int) : (hcF a0 a2 a5 l1 l2).length ≤ l1.length + l2.length + 9 := by
  unfold hcF
  split
  · have := wordF_len (Hs.mixF a5 (l1 ++ [255] ++ l2)) a2
    omega
  · have := wordF_len (l1.length : Int) 8
    simp only [List.length_append, List.length_cons, List.length_nil]
    omega
theorem toyHC (a0 a1 a2 a3 a4 a5 : Int) (l1 l2 : List Int) (h1 : l1.length ≤ 10000000000000) (h2 : l2.length ≤ 10000000000000) : Qf.impl_toy_HashChildren.f a0 a1 a2 a3 a4 a5 l1 l2 = some (hcF a0 a2 a5 l1 l2) := by
  unfold Qf.impl_toy_HashChildren.f hcF
  by_cases h : a0 = 1
  · rw [if_pos h, if_pos h]
    simp only [Qf.impl_mixed.f, Qf.impl_word.f]
    rw [if_pos (by omega)]
    simp only [Option.bind_some]
    rw [if_pos (by simp)]
    simp only [Option.bind_some]
    rw [if_pos (by omega)]
    simp only [Option.bind_some]
    congr 2
    unfold Hs.mixF
    rw [List.foldl_append, List.foldl_append]
  · rw [if_neg h, if_neg h]
    have hw : IntKind.u64.wrap (l1.length : Int) = l1.length := by
      show ((l1.length : Int)) % 18446744073709551616 = l1.length
      omega
    have hl := wordF_len (l1.length : Int) 8
    simp only [Option.bind_some, Qf.impl_word.f, hw]
    rw [if_pos (by simp only [List.length_cons, List.length_nil]; omega), if_pos (by simp only [List.length_append, List.length_cons, List.length_nil]; omega), if_pos (by simp only [List.length_append, List.length_cons, List.length_nil]; omega)]

theorem w64p (n : Int) (h : -9223372036854775808 ≤ n ∧ n ≤ 9223372036854775807) : wrap64 n = n := by unfold wrap64; omega
end Go.Proofs.YtfhcpniibiobgaaDoor.Pure
namespace Go.Proofs.YtfhcpniibiobgaaDoor.Pure
open Go.RowKit Go.Proofs.YtfhcpniibiobgaaDoorW.PrintWords Go.Proofs.YtfhcpniibiobgaaDoorW.PrintMore Go.Proofs.YtfhcpniibiobgaaDoorW.PrintLast

theorem row_at (L : List (List Int)) (j : Nat) (hj : j < L.length) : Qf.rd_L1 L (j : Int) = L[j] := by
  show L.getD (j : Int).toNat [] = L[j]
  rw [Int.toNat_natCast, List.getD_eq_getElem?_getD, List.getElem?_eq_getElem hj]
  rfl
theorem zz_go (L : List (List Int)) (hL : L.length ≤ 2147483647) : ∀ (m j k : Nat), j + m = L.length → m < k → ∃ b, Qf.laws_zzFits2.l0 k L (L.length : Int) (j : Int) = some b
  | 0, j, k + 1, h, _ => by
    rw [Qf.laws_zzFits2.l0, if_neg (by omega)]
    exact ⟨_, rfl⟩
  | m + 1, j, k + 1, h, hk => by
    rw [Qf.laws_zzFits2.l0, if_pos (by omega), if_pos (by omega), if_pos (by omega)]
    split
    · exact ⟨_, rfl⟩
    · rw [w64p _ (by omega), show ((j : Int) + 1) = ((j + 1 : Nat) : Int) by omega]
      exact zz_go L hL m (j + 1) k (by omega) (by omega)
theorem zz_f (L : List (List Int)) (k : Nat) (hk : 2147483648 ≤ k) : ∃ b, Qf.laws_zzFits2.f k L = some b ∧ (b = true → L.length ≤ 2147483647) := by
  unfold Qf.laws_zzFits2.f
  by_cases h : (L.length : Int) > 2147483647
  · rw [if_pos h]
    exact ⟨_, rfl, fun h => by cases h⟩
  · rw [if_neg h]
    obtain ⟨b, hb⟩ := zz_go L (by omega) L.length 0 k (by omega) (by omega)
    exact ⟨b, hb, fun _ => by omega⟩
theorem small_go (L : List (List Int)) (hL : L.length ≤ 2147483647) : ∀ (m j k : Nat), j + m = L.length → m < k → ∃ b, Qf.laws_logSmall.l0 k L L (L.length : Int) (j : Int) = some b ∧ (b = true → L.length ≤ 300 ∧ ∀ h ∈ L.drop j, h.length ≤ 5000)
  | 0, j, k + 1, h, _ => by
    rw [Qf.laws_logSmall.l0, if_neg (by omega)]
    refine ⟨_, rfl, fun hb => ⟨by have := of_decide_eq_true hb; omega, fun x hx => ?_⟩⟩
    rw [List.drop_eq_nil_of_le (by omega)] at hx
    cases hx
  | m + 1, j, k + 1, h, hk => by
    have hj : j < L.length := by omega
    rw [Qf.laws_logSmall.l0, if_pos (by omega), if_pos (by omega), if_pos (by omega), row_at L j hj]
    by_cases hb : (L[j].length : Int) > 5000
    · rw [if_pos hb]
      exact ⟨_, rfl, fun h => by cases h⟩
    · rw [if_neg hb, w64p _ (by omega), show ((j : Int) + 1) = ((j + 1 : Nat) : Int) by omega]
      obtain ⟨b, e, hbt⟩ := small_go L hL m (j + 1) k (by omega) (by omega)
      refine ⟨b, e, fun ht => ⟨(hbt ht).1, fun x hx => ?_⟩⟩
      rw [List.drop_eq_getElem_cons hj] at hx
      rcases List.mem_cons.1 hx with rfl | hx
      · omega
      · exact (hbt ht).2 x hx
theorem small_f (L : List (List Int)) (hL : L.length ≤ 2147483647) (k : Nat) (hk : 2147483648 ≤ k) : ∃ b, Qf.laws_logSmall.f k L = some b ∧ (b = true → L.length ≤ 300 ∧ ∀ h ∈ L, h.length ≤ 5000) := by
  obtain ⟨b, e, h⟩ := small_go L hL L.length 0 k (by omega) (by omega)
  exact ⟨b, e, fun hb => by simpa using h hb⟩

end Go.Proofs.YtfhcpniibiobgaaDoor.Pure
namespace Go.Proofs.YtfhcpniibiobgaaDoor.Pure
open Go.RowKit Go.Proofs.YtfhcpniibiobgaaDoorW.PrintWords Go.Proofs.YtfhcpniibiobgaaDoorW.PrintMore Go.Proofs.YtfhcpniibiobgaaDoorW.PrintLast

theorem nat_of_wf {x : Int} (h : (Lit.int .u64 x).wf = true) : ∃ n : Nat, x = (n : Int) ∧ n < 18446744073709551616 := by
  have h2 : IntKind.u64.min ≤ x ∧ x ≤ IntKind.u64.max := by simpa [Lit.wf] using h
  have e1 : IntKind.u64.min = 0 := rfl
  have e2 : IntKind.u64.max = 18446744073709551615 := rfl
  exact ⟨x.toNat, by omega, by omega⟩
theorem texts_go (L : List (List Int)) (hL : L.length ≤ 5864062014804) (hrow : ∀ x ∈ L, x.length < 140737488355328) : ∀ (m j k : Nat), j + m = L.length → m < k → Qf.impl_texts.l0 k (L.take j) L (L.length : Int) (j : Int) = some L
  | 0, j, k + 1, h, _ => by
    unfold Qf.impl_texts.l0
    rw [if_neg (by omega), List.take_of_length_le (by omega)]
  | m + 1, j, k + 1, h, hk => by
    have hj : j < L.length := by omega
    have hx : Qf.rd_L1 L (j : Int) = L[j] := by
      show L.getD (j : Int).toNat [] = L[j]
      rw [Int.toNat_natCast, List.getD_eq_getElem?_getD, List.getElem?_eq_getElem hj]
      rfl
    unfold Qf.impl_texts.l0
    rw [if_pos (by omega), if_pos (by omega), if_pos (by omega), Option.bind_some, hx, List.nil_append, if_pos (by have := hrow L[j] (List.getElem_mem hj); simpa using this), if_pos (by rw [List.length_take]; omega), ← List.take_succ_eq_append_getElem hj, w64p _ (by omega), show ((j : Int) + 1) = ((j + 1 : Nat) : Int) by omega]
    exact texts_go L hL hrow m (j + 1) k (by omega) (by omega)
theorem texts_ok (L : List (List Int)) (k : Nat) (hk : L.length < k) (hL : L.length ≤ 5864062014804) (hrow : ∀ x ∈ L, x.length < 140737488355328) : Qf.impl_texts.f k L = some L := texts_go L hL hrow L.length 0 k (by omega) hk
theorem len64 (z : Nat) (h : z < 18446744073709551616) : Qf.bits_Len64.f (z : Int) = some ((Lib.bitLen z : Nat) : Int) := by
  unfold Qf.bits_Len64.f
  rw [if_pos (by omega), if_pos (by omega), Int.toNat_natCast]
theorem tz64 (z : Nat) (h : z < 18446744073709551616) : Qf.bits_TrailingZeros64.f (z : Int) = some ((Lib.ctz 64 z : Nat) : Int) := by
  unfold Qf.bits_TrailingZeros64.f
  rw [if_pos (by omega), if_pos (by omega), Int.toNat_natCast]
theorem ctz_zero : Lib.ctz 64 0 = 64 := rfl
theorem lt64 {x y : Nat} (hx : x < 18446744073709551616) (hy : y < 18446744073709551616) : x ^^^ y < 18446744073709551616 := Nat.xor_lt_two_pow (n := 64) hx hy
theorem wlast (h : Nat) (h1 : 1 ≤ h) (h2 : h ≤ 64) : IntKind.u64.wrap (wrap64 ((h : Int) - 1)) = ((h - 1 : Nat) : Int) := by
  rw [w64 (by omega) (by omega), wu64 (by omega) (by omega)]
  omega
theorem before (e : Nat) (he : e < 18446744073709551616) : ∃ pe : Nat, IntKind.u64.wrap ((e : Int) - 1) = (pe : Int) ∧ pe < 18446744073709551616 ∧ (e ≠ 0 → pe = e - 1) ∧ (e = 0 → pe = 18446744073709551615) := by
  by_cases h : e = 0
  · subst h
    exact ⟨18446744073709551615, rfl, by omega, fun h => absurd rfl h, fun _ => rfl⟩
  · exact ⟨e - 1, by rw [wu64 (by omega) (by omega)]; omega, by omega, fun _ => rfl, fun h' => absurd h' h⟩
theorem tie_min {h1 h2 : Nat} (t : Int) (u v : Int) (hu : u = ((h2 - 1 : Nat) : Int)) (hv : v = ((h1 - 1 : Nat) : Int)) : (if (h2 : Int) < (h1 : Int) then some (t, u) else some (t, v)) = some (t, ((min h1 h2 - 1 : Nat) : Int)) := by
  by_cases h : h2 < h1
  · rw [if_pos (by omega), hu, show min h1 h2 = h2 by omega]
  · rw [if_neg (by omega), hv, show min h1 h2 = h1 by omega]
end Go.Proofs.YtfhcpniibiobgaaDoor.Pure
