/- Several texts, joined. -/
import Derived.Test.YtfhcpniibiobgaaDoorJm
import Derived.Test.YtfhcpniibiobgaaDoorQfx1
import Derived.Laws.Bits64b
import Derived.OpenShut
namespace Go.Proofs.YtfhcpniibiobgaaDoor.Pure
open Go.RowKit Go.Proofs.YtfhcpniibiobgaaDoor.Qf Go.Proofs.YtfhcpniibiobgaaDoorW.PrintWords Go.Proofs.YtfhcpniibiobgaaDoorW.PrintLast

theorem w64 {n : Int} (h0 : -9223372036854775808 ≤ n) (h1 : n ≤ 9223372036854775807) : wrap64 n = n := by
  unfold wrap64; omega
theorem wu64 {n : Int} (h0 : 0 ≤ n) (h1 : n < 18446744073709551616) : IntKind.u64.wrap n = n := by
  show n % 18446744073709551616 = n
  omega
theorem shl_u64 {x y : Int} (x' y' : Nat) (hx : x = x') (hy : y = y') (h : x' * 2 ^ y' < 18446744073709551616) (hy64 : y' ≤ 64) : shl .u64 x y = ((x' * 2 ^ y' : Nat) : Int) := by
  subst hx hy
  unfold shl
  rw [Int.toNat_natCast, show min y' IntKind.u64.bits = y' from Nat.min_eq_left hy64]
  rw [show ((x' : Int) * 2 ^ y') = ((x' * 2 ^ y' : Nat) : Int) by push_cast; rfl]
  exact wu64 (by omega) (by omega)
theorem shr_u64 {x y : Int} (x' y' : Nat) (hx : x = x') (hy : y = y') (hx64 : x' < 18446744073709551616) : shr .u64 x y = ((x' / 2 ^ y' : Nat) : Int) := by
  subst hx hy
  unfold shr
  rw [Int.toNat_natCast]
  by_cases h : y' ≤ 64
  · rw [show min y' IntKind.u64.bits = y' from Nat.min_eq_left h]; push_cast; rfl
  · rw [show min y' IntKind.u64.bits = 64 from Nat.min_eq_right (by show 64 ≤ y'; omega)]
    have h1 : x' / 2 ^ y' = 0 := Nat.div_eq_of_lt (Nat.lt_of_lt_of_le (show x' < 2 ^ 64 by omega) (Nat.pow_le_pow_right (by omega) (by omega)))
    rw [h1]
    have h3 : (2 : Int) ^ 64 = 18446744073709551616 := by decide
    rw [h3]
    exact Int.ediv_eq_zero_of_lt (by omega) (by omega)

/-- The range from b to e is cut at M: L ahead of it, R behind it. -/
structure Mid (b e L R M d : Nat) : Prop where
  lo : b + L = M
  hi : M + R = e
  d64 : d ≤ 64
  dvd : 2 ^ d ∣ M
  l : L < 2 ^ d
  r : R < 2 ^ d
  zero : b = 0 → L = 0
  pow : b ≠ 0 → ∀ t, e = 2 ^ t → R = 0

theorem decompose_of (b e : Nat) (hbe : b ≤ e) (he : e < 18446744073709551616) :
    ∃ L R M d : Nat, compact_Decompose.f (b : Int) (e : Int) = some ((L : Int), (R : Int)) ∧ Mid b e L R M d := by
  unfold compact_Decompose.f
  by_cases hb0 : b = 0
  · subst hb0
    rw [if_pos (by simp)]
    exact ⟨0, e, 0, 64, rfl, by omega, by omega, by omega, by simp, by omega, by omega, fun _ => rfl, fun h => absurd rfl h⟩
  rw [if_neg (by omega)]
  obtain ⟨d, q, h1, h2, h3, h4, h5, h6, h7, h8⟩ := M.cut b e (by omega) hbe (by omega)
  have e1 : IntKind.u64.wrap ((b : Int) - 1) = ((b - 1 : Nat) : Int) := by rw [wu64 (by omega) (by omega)]; omega
  rw [e1, bits_xor_u64_nat _ _ (by omega) he]
  have e2 : bits_Len64.f (((b - 1) ^^^ e : Nat) : Int) = some ((d + 1 : Nat) : Int) := by
    unfold bits_Len64.f
    rw [if_pos (by omega), if_pos (by omega), Int.toNat_natCast, h1]
  rw [e2]
  simp only [Option.bind_some]
  have e3 : IntKind.u64.wrap (wrap64 (((d + 1 : Nat) : Int) - 1)) = (d : Int) := by rw [w64 (by omega) (by omega), wu64 (by omega) (by omega)]; omega
  rw [e3, if_pos (by omega)]
  have hD : 2 ^ d < 18446744073709551616 := by
    have : 2 ^ d ≤ 2 ^ 63 := Nat.pow_le_pow_right (by omega) h2
    omega
  have hD0 : 0 < 2 ^ d := Nat.two_pow_pos d
  have e4 : IntKind.u64.wrap (shl .u64 1 (d : Int) - 1) = ((2 ^ d - 1 : Nat) : Int) := by
    rw [shl_u64 (x := 1) (y := (d : Int)) 1 d rfl rfl (by omega) (by omega), Nat.one_mul, wu64 (by omega) (by omega)]; omega
  have e5 : Go.bits .xor .u64 18446744073709551615 ((b - 1 : Nat) : Int) = ((18446744073709551615 - (b - 1) : Nat) : Int) := by
    rw [show (18446744073709551615 : Int) = ((18446744073709551615 : Nat) : Int) from rfl, bits_xor_u64_nat _ _ (by omega) (by omega)]
    congr 1
    have : (18446744073709551615 : Nat) = 2 ^ 64 - 1 := by decide
    apply Nat.eq_of_testBit_eq
    intro i
    rw [Nat.testBit_xor, this, Nat.testBit_two_pow_sub_one, show 2 ^ 64 - 1 - (b - 1) = 2 ^ 64 - ((b - 1) + 1) by omega, Nat.testBit_two_pow_sub_succ (by omega)]
    by_cases hi : i < 64 <;> simp [hi]
    exact Nat.testBit_lt_two_pow (Nat.lt_of_lt_of_le (show b - 1 < 2 ^ 64 by omega) (Nat.pow_le_pow_right (by omega) (by omega)))
  rw [e4, e5, bits_and_u64_nat _ _ (by omega) (by omega), bits_and_u64_nat _ _ (by omega) (by omega), Nat.and_two_pow_sub_one_eq_mod, Nat.and_two_pow_sub_one_eq_mod]
  have e6 : (18446744073709551615 - (b - 1)) % 2 ^ d = 2 ^ d - 1 - (b - 1) % 2 ^ d := by
    have k1 : (18446744073709551616 : Nat) = 2 ^ d * 2 ^ (64 - d) := by rw [← Nat.pow_add, show d + (64 - d) = 64 by omega]
    have k2 := Nat.div_add_mod (b - 1) (2 ^ d)
    have k3 : (b - 1) / 2 ^ d < 2 ^ (64 - d) := by
      rw [Nat.div_lt_iff_lt_mul hD0, Nat.mul_comm, ← k1]; omega
    have k4 : 18446744073709551615 - (b - 1) = 2 ^ d * (2 ^ (64 - d) - 1 - (b - 1) / 2 ^ d) + (2 ^ d - 1 - (b - 1) % 2 ^ d) := by
      rw [Nat.mul_sub, Nat.mul_sub, ← k1, Nat.mul_one]
      have k5 : 2 ^ d * ((b - 1) / 2 ^ d) + 2 ^ d ≤ 18446744073709551616 := by
        rw [k1, ← Nat.mul_succ]; exact Nat.mul_le_mul_left _ k3
      generalize 2 ^ d * ((b - 1) / 2 ^ d) = u at *
      generalize (b - 1) % 2 ^ d = v at *
      generalize 2 ^ d = D at *
      omega
    rw [k4, Nat.mul_add_mod, Nat.mod_eq_of_lt (by omega)]
  rw [e6]
  refine ⟨_, _, 2 ^ d * q, d, rfl, h6, h5.symm, by omega, ⟨q, rfl⟩, by omega, h8, fun h => absurd h hb0, ?_⟩
  intro _ t ht
  have hq1 : 1 ≤ q := by omega
  have k1 : 2 ^ d ≤ 2 ^ t := by
    have : 2 ^ d * 1 ≤ 2 ^ d * q := Nat.mul_le_mul_left _ hq1
    rw [← ht]; omega
  have k2 : d ≤ t := (Nat.pow_le_pow_iff_right (by omega)).1 k1
  rw [ht]
  exact Nat.mod_eq_zero_of_dvd (Nat.pow_dvd_pow 2 k2)

end Go.Proofs.YtfhcpniibiobgaaDoor.Pure
namespace Go.Proofs.YtfhcpniibiobgaaDoor.Pure
open Go.RowKit Go.Proofs.YtfhcpniibiobgaaDoor.Qf Go.Proofs.YtfhcpniibiobgaaDoorW.PrintWords Go.Proofs.YtfhcpniibiobgaaDoorW.PrintLast
open Go.Proofs.YtfhcpniibiobgaaDoor.M (leftN rightN nodesN lstep rstep rightN_fuel leftN_len rightN_len)

theorem pow_lt64 {c : Nat} (h : c ≤ 63) : 2 ^ c < 18446744073709551616 := by
  have : 2 ^ c ≤ 2 ^ 63 := Nat.pow_le_pow_right (by omega) h
  omega
def mk108 (x : Nat × Nat) : S108 := ⟨(x.1 : Int), (x.2 : Int)⟩
theorem xor_pow {L c : Nat} (a : Nat) (ha : a.testBit c = false) (hL : a ||| 2 ^ c = L) : L ^^^ 2 ^ c = a := by
  subst hL
  apply Nat.eq_of_testBit_eq
  intro i
  rw [Nat.testBit_xor, Nat.testBit_or, Nat.testBit_two_pow]
  by_cases hi : c = i
  · subst hi; simp [ha]
  · simp [hi]
theorem or_pow {a c : Nat} (h : a < 2 ^ c) : a ||| 2 ^ c = a + 2 ^ c := by
  rw [Nat.or_comm, Nat.add_comm]
  have := Nat.two_pow_add_eq_or_of_lt h 1
  rw [Nat.mul_one] at this
  exact this.symm
theorem or_pow' {a c : Nat} (h : 2 ^ (c + 1) ∣ a) : a ||| 2 ^ c = a + 2 ^ c := by
  obtain ⟨u, rfl⟩ := h
  exact (Nat.two_pow_add_eq_or_of_lt (Nat.pow_lt_pow_right (by omega) (by omega)) u).symm

theorem xor_low {L c : Nat} (hle : 2 ^ c ≤ L) (h : 2 ^ (c + 1) ∣ L - 2 ^ c) : L ^^^ 2 ^ c = L - 2 ^ c := by
  refine xor_pow (L - 2 ^ c) ?_ (by rw [or_pow' h]; omega)
  obtain ⟨u, hu⟩ := h
  rw [hu, Nat.testBit_two_pow_mul]
  simp
  omega
theorem xor_top {R c : Nat} (hle : 2 ^ c ≤ R) (h : R - 2 ^ c < 2 ^ c) : R ^^^ 2 ^ c = R - 2 ^ c :=
  xor_pow (R - 2 ^ c) (Nat.testBit_lt_two_pow h) (by rw [or_pow h]; omega)

/-- The part behind, as the program makes it. -/
theorem right_run (e : Nat) (he : e < 18446744073709551616) (f : Nat) : ∀ (R : Nat) (out : List S108), f ≤ 64 → R < 2 ^ f → R ≤ e → 2 ^ f ∣ e - R → out.length + f < 1000 →
    ∃ k, compact_RangeNodes.l1 k out (R : Int) ((e - R : Nat) : Int) = some (out ++ (rightN f e R).map mk108) := by
  induction f using Nat.strongRecOn with
  | _ f ih =>
  intro R out hf hR hRe hdv hout
  by_cases h0 : R = 0
  · subst h0
    have : rightN f e 0 = [] := by cases f <;> simp [rightN]
    rw [this]
    exact ⟨1, by simp [compact_RangeNodes.l1]⟩
  obtain ⟨f, rfl⟩ : ∃ g, f = g + 1 := by
    refine ⟨f - 1, ?_⟩
    rcases Nat.eq_zero_or_pos f with h | h
    · subst h; simp at hR; omega
    · omega
  have hs := rstep f e R hf h0 hR hRe hdv
  have hun : rightN (f + 1) e R = (Lib.bitLen R - 1, (e - R) / 2 ^ (Lib.bitLen R - 1)) :: rightN f e (R - 2 ^ (Lib.bitLen R - 1)) := by
    rw [rightN, if_neg h0]
  have hR64 : R < 2 ^ 64 := Nat.lt_of_lt_of_le hR (Nat.pow_le_pow_right (by omega) hf)
  obtain ⟨b1, b2, _, _⟩ := M.len_spec R h0 hR64
  have hlen : bits_Len64.f (R : Int) = some ((Lib.bitLen R - 1 + 1 : Nat) : Int) := by
    unfold bits_Len64.f
    rw [if_pos (by omega), if_pos (by omega), Int.toNat_natCast]
    congr 2; omega
  rw [hun]
  generalize Lib.bitLen R - 1 = c at *
  obtain ⟨c63, cf, le, lt, rest, ⟨m, even⟩, dvd⟩ := hs
  have hsub : e - (R - 2 ^ c) = e - R + 2 ^ c := by omega
  have hfuel : rightN f e (R - 2 ^ c) = rightN c e (R - 2 ^ c) := rightN_fuel c f e _ cf (by omega) rest
  obtain ⟨k, hk⟩ := ih c (by omega) (R - 2 ^ c) (out ++ [mk108 (c, (e - R) / 2 ^ c)]) (by omega) rest (by omega) dvd (by rw [List.length_append, List.length_singleton]; omega)
  rw [hsub] at hk
  have hpc := pow_lt64 c63
  refine ⟨k + 1, ?_⟩
  simp only [compact_RangeNodes.l1]
  have e1 : IntKind.u64.wrap ((IntKind.u64.wrap ((c + 1 : Nat) : Int)) - 1) = (c : Int) := by rw [wu64 (n := ((c + 1 : Nat) : Int)) (by omega) (by omega), wu64 (by omega) (by omega)]; omega
  rw [if_neg (by omega), hlen]
  simp only [Option.bind_some, e1, compact_NewNodeID.f]
  rw [if_pos (by omega), if_pos (by omega), shr_u64 (e - R) c rfl rfl (by omega), shl_u64 (x := 1) (y := (c : Int)) 1 c rfl rfl (by omega) (by omega), Nat.one_mul, bits_xor_u64_nat _ _ (by omega) hpc, xor_top le rest, wu64 (by omega) (by omega)]
  rw [show ((e - R : Nat) : Int) + ((2 ^ c : Nat) : Int) = ((e - R + 2 ^ c : Nat) : Int) by push_cast; rfl, hfuel]
  have : out ++ ((c, (e - R) / 2 ^ c) :: rightN c e (R - 2 ^ c)).map mk108 = out ++ [mk108 (c, (e - R) / 2 ^ c)] ++ (rightN c e (R - 2 ^ c)).map mk108 := by simp
  rw [this]
  exact hk

/-- The part ahead. -/
theorem left_run (M d e R : Nat) (he : e < 18446744073709551616) (hd : d ≤ 64) (hM : 2 ^ d ∣ M) (hMe : M ≤ e) (f : Nat) :
    ∀ (L : Nat) (out : List S108) (r : List S108), f ≤ 64 → L < 2 ^ d → L ≤ M → 2 ^ (64 - f) ∣ L → out.length + f < 1000 →
      (∃ k, compact_RangeNodes.l1 k (out ++ (leftN f M L).map mk108) (R : Int) (M : Int) = some r) → ∃ k, compact_RangeNodes.l0 k out (L : Int) (R : Int) ((M - L : Nat) : Int) = some r := by
  induction f with
  | zero =>
    intro L out r _ hL _ hdv _ h
    have h0 : L = 0 := Nat.eq_zero_of_dvd_of_lt hdv (Nat.lt_of_lt_of_le hL (Nat.pow_le_pow_right (by omega) hd))
    subst h0
    obtain ⟨k, hk⟩ := h
    exact ⟨k + 1, by simpa [leftN, compact_RangeNodes.l0] using hk⟩
  | succ f ih =>
    intro L out r hf hL hLM hdv hout h
    by_cases h0 : L = 0
    · subst h0
      obtain ⟨k, hk⟩ := h
      exact ⟨k + 1, by simpa [leftN, compact_RangeNodes.l0] using hk⟩
    have hs := lstep f d M L hf h0 hL hd hM hLM hdv
    have hctz : bits_TrailingZeros64.f (L : Int) = some ((Lib.ctz 64 L : Nat) : Int) := by
      have hL64 : L < 2 ^ 64 := Nat.lt_of_lt_of_le hL (Nat.pow_le_pow_right (by omega) hd)
      unfold bits_TrailingZeros64.f
      rw [if_pos (by omega), if_pos (by omega), Int.toNat_natCast]
    unfold leftN at h
    rw [if_neg h0] at h
    generalize Lib.ctz 64 L = c at *
    obtain ⟨c63, cd, fc, le, dvd, ⟨m, odd⟩, low⟩ := hs
    rw [List.map_cons, List.append_cons] at h
    have hsub : M - (L - 2 ^ c) = M - L + 2 ^ c := by omega
    have hlt : L - 2 ^ c < 2 ^ d := by omega
    obtain ⟨k, hk⟩ := ih (L - 2 ^ c) (out ++ [mk108 (c, (M - L) / 2 ^ c)]) r (by omega) hlt (by omega) (Nat.dvd_trans (Nat.pow_dvd_pow 2 (by omega)) dvd) (by rw [List.length_append, List.length_singleton]; omega) h
    rw [hsub] at hk
    have hpc := pow_lt64 c63
    refine ⟨k + 1, ?_⟩
    simp only [compact_RangeNodes.l0]
    have e1 : IntKind.u64.wrap (c : Int) = (c : Int) := wu64 (by omega) (by omega)
    rw [if_neg (by omega), hctz]
    simp only [Option.bind_some, e1, compact_NewNodeID.f]
    rw [if_pos (by omega), if_pos (by omega), shr_u64 (M - L) c rfl rfl (by omega), shl_u64 (x := 1) (y := (c : Int)) 1 c rfl rfl (by omega) (by omega), Nat.one_mul, bits_xor_u64_nat _ _ (by omega) hpc, xor_low le dvd, wu64 (by omega) (by omega)]
    rw [show ((M - L : Nat) : Int) + ((2 ^ c : Nat) : Int) = ((M - L + 2 ^ c : Nat) : Int) by push_cast; rfl]
    exact hk

theorem rangeNodes_of {b e L R M d : Nat} (hf : compact_Decompose.f (b : Int) (e : Int) = some ((L : Int), (R : Int))) (hm : Mid b e L R M d) (he : e < 18446744073709551616) (out : List S108) (ho : out.length < 800) :
    ∃ k, compact_RangeNodes.f k (b : Int) (e : Int) out = some (out ++ (nodesN M e L R).map mk108) := by
  obtain ⟨lo, hi, d64, dvd, l, r, _, _⟩ := hm
  have hl := leftN_len 64 M L
  have hr := right_run e he d R (out ++ (leftN 64 M L).map mk108) (by omega) r (by omega) (by rw [show e - R = M by omega]; exact dvd) (by
    rw [List.length_append, List.length_map]; omega)
  rw [show e - R = M by omega, ← rightN_fuel d 64 e R (by omega) (by omega) r] at hr
  obtain ⟨k, hk⟩ := left_run M d e R he (by omega) dvd (by omega) 64 L out _ (by omega) l (by omega) (by simp) (by omega) hr
  rw [show M - L = b by omega] at hk
  refine ⟨k, ?_⟩
  unfold compact_RangeNodes.f
  rw [hf]
  simp only [Option.bind_some]
  rw [hk, nodesN, List.map_append, List.append_assoc]
end Go.Proofs.YtfhcpniibiobgaaDoor.Pure
