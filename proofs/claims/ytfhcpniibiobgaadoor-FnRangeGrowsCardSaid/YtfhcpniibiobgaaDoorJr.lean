/- Several texts, joined. -/
import Derived.Test.YtfhcpniibiobgaaDoorJm
import Derived.Test.YtfhcpniibiobgaaDoorQfx1
import Derived.Laws.Bits64b
import Derived.OpenShut
import Derived.Test.YtfhcpniibiobgaaDoorQfx4
namespace Go.Proofs.YtfhcpniibiobgaaDoor.Pure
open Go.RowKit Go.Proofs.YtfhcpniibiobgaaDoor.Qf Go.Proofs.YtfhcpniibiobgaaDoorW.PrintWords Go.Proofs.YtfhcpniibiobgaaDoorW.PrintLast

theorem w64 {n : Int} (h0 : -9223372036854775808 ≤ n) (h1 : n ≤ 9223372036854775807) : wrap64 n = n := by
  unfold wrap64; omega
theorem wu64 {n : Int} (h0 : 0 ≤ n) (h1 : n < 18446744073709551616) : IntKind.u64.wrap n = n := by
  show n % 18446744073709551616 = n
  omega
theorem shl_u64 {x y : Int} (x' y' : Nat) (hx : x = x') (hy : y = y') (h : x' * 2 ^ y' < 18446744073709551616) (hy64 : y' ≤ 64) : shl .u64 x y = ((x' * 2 ^ y' : Nat) : Int) := by
  subst hx hy
  unfold shl
  rw [Int.toNat_natCast, show min y' IntKind.u64.bits = y' from Nat.min_eq_left hy64]
  rw [show ((x' : Int) * 2 ^ y') = ((x' * 2 ^ y' : Nat) : Int) by push_cast; rfl]
  exact wu64 (by omega) (by omega)
theorem shr_u64 {x y : Int} (x' y' : Nat) (hx : x = x') (hy : y = y') (hx64 : x' < 18446744073709551616) : shr .u64 x y = ((x' / 2 ^ y' : Nat) : Int) := by
  subst hx hy
  unfold shr
  rw [Int.toNat_natCast]
  by_cases h : y' ≤ 64
  · rw [show min y' IntKind.u64.bits = y' from Nat.min_eq_left h]; push_cast; rfl
  · rw [show min y' IntKind.u64.bits = 64 from Nat.min_eq_right (by show 64 ≤ y'; omega)]
    have h1 : x' / 2 ^ y' = 0 := Nat.div_eq_of_lt (Nat.lt_of_lt_of_le (show x' < 2 ^ 64 by omega) (Nat.pow_le_pow_right (by omega) (by omega)))
    rw [h1]
    have h3 : (2 : Int) ^ 64 = 18446744073709551616 := by decide
    rw [h3]
    exact Int.ediv_eq_zero_of_lt (by omega) (by omega)

/-- The range from b to e is cut at M: L ahead of it, R behind it. -/
structure Mid (b e L R M d : Nat) : Prop where
  lo : b + L = M
  hi : M + R = e
  d64 : d ≤ 64
  dvd : 2 ^ d ∣ M
  l : L < 2 ^ d
  r : R < 2 ^ d
  zero : b = 0 → L = 0
  pow : b ≠ 0 → ∀ t, e = 2 ^ t → R = 0

theorem decompose_of (b e : Nat) (hbe : b ≤ e) (he : e < 18446744073709551616) :
    ∃ L R M d : Nat, compact_Decompose.f (b : Int) (e : Int) = some ((L : Int), (R : Int)) ∧ Mid b e L R M d := by
  unfold compact_Decompose.f
  by_cases hb0 : b = 0
  · subst hb0
    rw [if_pos (by simp)]
    exact ⟨0, e, 0, 64, rfl, by omega, by omega, by omega, by simp, by omega, by omega, fun _ => rfl, fun h => absurd rfl h⟩
  rw [if_neg (by omega)]
  obtain ⟨d, q, h1, h2, h3, h4, h5, h6, h7, h8⟩ := M.cut b e (by omega) hbe (by omega)
  have e1 : IntKind.u64.wrap ((b : Int) - 1) = ((b - 1 : Nat) : Int) := by rw [wu64 (by omega) (by omega)]; omega
  rw [e1, bits_xor_u64_nat _ _ (by omega) he]
  have e2 : bits_Len64.f (((b - 1) ^^^ e : Nat) : Int) = some ((d + 1 : Nat) : Int) := by
    unfold bits_Len64.f
    rw [if_pos (by omega), if_pos (by omega), Int.toNat_natCast, h1]
  rw [e2]
  simp only [Option.bind_some]
  have e3 : IntKind.u64.wrap (wrap64 (((d + 1 : Nat) : Int) - 1)) = (d : Int) := by rw [w64 (by omega) (by omega), wu64 (by omega) (by omega)]; omega
  rw [e3, if_pos (by omega)]
  have hD : 2 ^ d < 18446744073709551616 := by
    have : 2 ^ d ≤ 2 ^ 63 := Nat.pow_le_pow_right (by omega) h2
    omega
  have hD0 : 0 < 2 ^ d := Nat.two_pow_pos d
  have e4 : IntKind.u64.wrap (shl .u64 1 (d : Int) - 1) = ((2 ^ d - 1 : Nat) : Int) := by
    rw [shl_u64 (x := 1) (y := (d : Int)) 1 d rfl rfl (by omega) (by omega), Nat.one_mul, wu64 (by omega) (by omega)]; omega
  have e5 : Go.bits .xor .u64 18446744073709551615 ((b - 1 : Nat) : Int) = ((18446744073709551615 - (b - 1) : Nat) : Int) := by
    rw [show (18446744073709551615 : Int) = ((18446744073709551615 : Nat) : Int) from rfl, bits_xor_u64_nat _ _ (by omega) (by omega)]
    congr 1
    have : (18446744073709551615 : Nat) = 2 ^ 64 - 1 := by decide
    apply Nat.eq_of_testBit_eq
    intro i
    rw [Nat.testBit_xor, this, Nat.testBit_two_pow_sub_one, show 2 ^ 64 - 1 - (b - 1) = 2 ^ 64 - ((b - 1) + 1) by omega, Nat.testBit_two_pow_sub_succ (by omega)]
    by_cases hi : i < 64 <;> simp [hi]
    exact Nat.testBit_lt_two_pow (Nat.lt_of_lt_of_le (show b - 1 < 2 ^ 64 by omega) (Nat.pow_le_pow_right (by omega) (by omega)))
  rw [e4, e5, bits_and_u64_nat _ _ (by omega) (by omega), bits_and_u64_nat _ _ (by omega) (by omega), Nat.and_two_pow_sub_one_eq_mod, Nat.and_two_pow_sub_one_eq_mod]
  have e6 : (18446744073709551615 - (b - 1)) % 2 ^ d = 2 ^ d - 1 - (b - 1) % 2 ^ d := by
    have k1 : (18446744073709551616 : Nat) = 2 ^ d * 2 ^ (64 - d) := by rw [← Nat.pow_add, show d + (64 - d) = 64 by omega]
    have k2 := Nat.div_add_mod (b - 1) (2 ^ d)
    have k3 : (b - 1) / 2 ^ d < 2 ^ (64 - d) := by
      rw [Nat.div_lt_iff_lt_mul hD0, Nat.mul_comm, ← k1]; omega
    have k4 : 18446744073709551615 - (b - 1) = 2 ^ d * (2 ^ (64 - d) - 1 - (b - 1) / 2 ^ d) + (2 ^ d - 1 - (b - 1) % 2 ^ d) := by
      rw [Nat.mul_sub, Nat.mul_sub, ← k1, Nat.mul_one]
      have k5 : 2 ^ d * ((b - 1) / 2 ^ d) + 2 ^ d ≤ 18446744073709551616 := by
        rw [k1, ← Nat.mul_succ]; exact Nat.mul_le_mul_left _ k3
      generalize 2 ^ d * ((b - 1) / 2 ^ d) = u at *
      generalize (b - 1) % 2 ^ d = v at *
      generalize 2 ^ d = D at *
      omega
    rw [k4, Nat.mul_add_mod, Nat.mod_eq_of_lt (by omega)]
  rw [e6]
  refine ⟨_, _, 2 ^ d * q, d, rfl, h6, h5.symm, by omega, ⟨q, rfl⟩, by omega, h8, fun h => absurd h hb0, ?_⟩
  intro _ t ht
  have hq1 : 1 ≤ q := by omega
  have k1 : 2 ^ d ≤ 2 ^ t := by
    have : 2 ^ d * 1 ≤ 2 ^ d * q := Nat.mul_le_mul_left _ hq1
    rw [← ht]; omega
  have k2 : d ≤ t := (Nat.pow_le_pow_iff_right (by omega)).1 k1
  rw [ht]
  exact Nat.mod_eq_zero_of_dvd (Nat.pow_dvd_pow 2 k2)

end Go.Proofs.YtfhcpniibiobgaaDoor.Pure
namespace Go.Proofs.YtfhcpniibiobgaaDoor.Pure
open Go.RowKit Go.Proofs.YtfhcpniibiobgaaDoor.Qf Go.Proofs.YtfhcpniibiobgaaDoorW.PrintWords Go.Proofs.YtfhcpniibiobgaaDoorW.PrintLast
open Go.Proofs.YtfhcpniibiobgaaDoor.M (leftN rightN nodesN lstep rstep rightN_fuel leftN_len rightN_len)

/-- A node as the program has it. -/
def mkS (x : Nat × Nat) : S52 := ⟨(x.1 : Int), (x.2 : Int)⟩

theorem pow_lt64 {c : Nat} (h : c ≤ 63) : 2 ^ c < 18446744073709551616 := by
  have : 2 ^ c ≤ 2 ^ 63 := Nat.pow_le_pow_right (by omega) h
  omega

/-- The search for the level comes to c. -/
theorem level_of (k : Nat) (out : List S52) (p e c : Nat) (he : e < 18446744073709551616) (hc : c ≤ 63) (hp : p < e)
    (hev : p % 2 ^ c = 0) (hle : 2 ^ c ≤ e - p) (hstop : c = 63 ∨ p / 2 ^ c % 2 = 1 ∨ e - p < 2 ^ (c + 1)) (hl : out.length < 8796093022208) :
    ∀ i j : Nat, j + i = c → spec_Nodes.l1 (k + i + 1) out (j : Int) (p : Int) (e : Int) = spec_Nodes.l0 k (out ++ [mkS (c, p / 2 ^ c)]) ((p + 2 ^ c : Nat) : Int) (e : Int) := by
  intro i
  have hpc := pow_lt64 hc
  have hshr : ∀ j : Nat, shr .u64 (p : Int) (j : Int) = ((p / 2 ^ j : Nat) : Int) := fun j => shr_u64 p j rfl rfl (by omega)
  have hbit : ∀ j : Nat, Go.bits .and .u64 ((p / 2 ^ j : Nat) : Int) 1 = ((p / 2 ^ j % 2 : Nat) : Int) := by
    intro j
    have h1 : p / 2 ^ j ≤ p := Nat.div_le_self _ _
    rw [show (1 : Int) = ((1 : Nat) : Int) from rfl, bits_and_u64_nat _ _ (by omega) (by omega), Nat.and_one_is_mod]
  have happ : (if out.length < 8796093022208 then (spec_Nodes.l0 k (out ++ [(⟨(c : Int), shr .u64 (p : Int) (c : Int)⟩ : S52)]) (IntKind.u64.wrap ((p : Int) + (shl .u64 1 (c : Int)))) (e : Int)) else none) =
      spec_Nodes.l0 k (out ++ [mkS (c, p / 2 ^ c)]) ((p + 2 ^ c : Nat) : Int) (e : Int) := by
    rw [if_pos hl, hshr, shl_u64 (x := 1) (y := (c : Int)) 1 c rfl rfl (by omega) (by omega), Nat.one_mul, wu64 (by omega) (by omega)]
    have : (p : Int) + ((2 ^ c : Nat) : Int) = ((p + 2 ^ c : Nat) : Int) := by push_cast; rfl
    rw [this]
    rfl
  induction i with
  | zero =>
    intro j hj
    obtain rfl : j = c := by omega
    simp only [spec_Nodes.l1]
    by_cases h63 : (j : Int) < 63
    · rw [if_pos h63, if_pos (by omega), hshr, hbit]
      by_cases hb : ((p / 2 ^ j % 2 : Nat) : Int) = 0
      · rw [if_pos hb]
        have e1 : IntKind.u64.wrap ((j : Int) + 1) = ((j + 1 : Nat) : Int) := by rw [wu64 (by omega) (by omega)]; omega
        have hlt : e - p < 2 ^ (j + 1) := by rcases hstop with h | h | h <;> omega
        have hpj := pow_lt64 (show j + 1 ≤ 63 by omega)
        rw [e1, if_pos (by omega), shl_u64 (x := 1) (y := ((j + 1 : Nat) : Int)) 1 (j + 1) rfl rfl (by omega) (by omega), Nat.one_mul, if_neg (by rw [wu64 (by omega) (by omega)]; omega)]
        have happ' := happ
        rw [hshr] at happ'
        exact happ'
      · rw [if_neg hb]
        have happ' := happ
        rw [hshr] at happ'
        exact happ'
    · rw [if_neg h63, if_pos (by omega)]
      exact happ
  | succ i ih =>
    intro j hj
    have hjc : j < c := by omega
    rw [show k + (i + 1) + 1 = (k + i + 1) + 1 by omega]
    have hih := ih (j + 1) (by omega)
    generalize k + i + 1 = kk at *
    simp only [spec_Nodes.l1]
    rw [if_pos (by omega), if_pos (by omega), hshr, hbit]
    have h0 : p / 2 ^ j % 2 = 0 := by
      obtain ⟨u, hu⟩ := Nat.dvd_of_mod_eq_zero hev
      obtain ⟨g, rfl⟩ : ∃ g, c = j + 1 + g := ⟨c - j - 1, by omega⟩
      rw [hu, Nat.pow_add, Nat.pow_succ, Nat.mul_assoc, Nat.mul_assoc, Nat.mul_div_cancel_left _ (Nat.two_pow_pos j)]
      omega
    rw [h0, if_pos (show ((0 : Nat) : Int) = 0 from rfl)]
    have e1 : IntKind.u64.wrap ((j : Int) + 1) = ((j + 1 : Nat) : Int) := by rw [wu64 (by omega) (by omega)]; omega
    have hpj := pow_lt64 (show j + 1 ≤ 63 by omega)
    have hple : 2 ^ (j + 1) ≤ 2 ^ c := Nat.pow_le_pow_right (by omega) (by omega)
    rw [e1, if_pos (by omega), shl_u64 (x := 1) (y := ((j + 1 : Nat) : Int)) 1 (j + 1) rfl rfl (by omega) (by omega), Nat.one_mul, if_pos (by rw [wu64 (by omega) (by omega)]; omega)]
    exact hih

theorem step_of (k : Nat) (out : List S52) (p e c : Nat) (he : e < 18446744073709551616) (hc : c ≤ 63) (hp : p < e)
    (hev : p % 2 ^ c = 0) (hle : 2 ^ c ≤ e - p) (hstop : c = 63 ∨ p / 2 ^ c % 2 = 1 ∨ e - p < 2 ^ (c + 1)) (hl : out.length < 8796093022208) :
    spec_Nodes.l0 (k + c + 2) out (p : Int) (e : Int) = spec_Nodes.l0 k (out ++ [mkS (c, p / 2 ^ c)]) ((p + 2 ^ c : Nat) : Int) (e : Int) := by
  rw [show k + c + 2 = (k + c + 1) + 1 by omega]
  simp only [spec_Nodes.l0]
  rw [if_pos (by omega)]
  exact level_of k out p e c he hc hp hev hle hstop hl c 0 (by omega)

/-- The part ahead of M. -/
theorem left_of (M d e : Nat) (he : e < 18446744073709551616) (hd : d ≤ 64) (hM : 2 ^ d ∣ M) (hMe : M ≤ e) (f : Nat) :
    ∀ (L : Nat) (out : List S52) (r : List S52), f ≤ 64 → L < 2 ^ d → L ≤ M → 2 ^ (64 - f) ∣ L → out.length + f < 1000 →
      (∃ k, spec_Nodes.l0 k (out ++ (leftN f M L).map mkS) (M : Int) (e : Int) = some r) → ∃ k, spec_Nodes.l0 k out ((M - L : Nat) : Int) (e : Int) = some r := by
  induction f with
  | zero =>
    intro L out r _ hL _ hdv _ h
    have h0 : L = 0 := by
      obtain ⟨u, hu⟩ := hdv
      have : 2 ^ d ≤ 2 ^ 64 := Nat.pow_le_pow_right (by omega) hd
      have hu0 : u = 0 := by
        rcases Nat.eq_zero_or_pos u with h | h
        · exact h
        · exfalso
          have : 2 ^ 64 * 1 ≤ 2 ^ 64 * u := Nat.mul_le_mul_left _ h
          omega
      rw [hu, hu0, Nat.mul_zero]
    subst h0
    simpa [leftN] using h
  | succ f ih =>
    intro L out r hf hL hLM hdv hout h
    by_cases h0 : L = 0
    · subst h0
      simpa [leftN] using h
    have hs := lstep f d M L hf h0 hL hd hM hLM hdv
    unfold leftN at h
    rw [if_neg h0] at h
    generalize Lib.ctz 64 L = c at *
    obtain ⟨c63, cd, fc, le, dvd, ⟨m, odd⟩, low⟩ := hs
    rw [List.map_cons, List.append_cons] at h
    have hsub : M - (L - 2 ^ c) = M - L + 2 ^ c := by omega
    have hlt : L - 2 ^ c < 2 ^ d := by omega
    obtain ⟨k, hk⟩ := ih (L - 2 ^ c) (out ++ [mkS (c, (M - L) / 2 ^ c)]) r (by omega) hlt (by omega) (Nat.dvd_trans (Nat.pow_dvd_pow 2 (by omega)) dvd) (by rw [List.length_append, List.length_singleton]; omega) h
    rw [hsub] at hk
    refine ⟨k + c + 2, ?_⟩
    rw [step_of k out (M - L) e c he c63 (by omega) ?_ (by omega) (.inr (.inl ?_)) (by omega)]
    · exact hk
    · rw [odd]; exact Nat.mul_mod_right _ _
    · rw [odd, Nat.mul_div_cancel_left _ (Nat.two_pow_pos c)]; omega

/-- The part behind. -/
theorem right_of (e : Nat) (he : e < 18446744073709551616) (f : Nat) :
    ∀ (R : Nat) (out : List S52), f ≤ 64 → R < 2 ^ f → R ≤ e → 2 ^ f ∣ e - R → out.length + f < 1000 →
      ∃ k, spec_Nodes.l0 k out ((e - R : Nat) : Int) (e : Int) = some (out ++ (rightN f e R).map mkS) := by
  induction f using Nat.strongRecOn with
  | _ f ih =>
  intro R out hf hR hRe hdv hout
  by_cases h0 : R = 0
  · subst h0
    refine ⟨1, ?_⟩
    have : rightN f e 0 = [] := by cases f <;> simp [rightN]
    rw [this]
    simp [spec_Nodes.l0]
  obtain ⟨f, rfl⟩ : ∃ g, f = g + 1 := by
    refine ⟨f - 1, ?_⟩
    rcases Nat.eq_zero_or_pos f with h | h
    · subst h; simp at hR; omega
    · omega
  have hs := rstep f e R hf h0 hR hRe hdv
  have hun : rightN (f + 1) e R = (Lib.bitLen R - 1, (e - R) / 2 ^ (Lib.bitLen R - 1)) :: rightN f e (R - 2 ^ (Lib.bitLen R - 1)) := by
    rw [rightN, if_neg h0]
  rw [hun]
  generalize Lib.bitLen R - 1 = c at *
  obtain ⟨c63, cf, le, lt, rest, ⟨m, even⟩, dvd⟩ := hs
  have hsub : e - (R - 2 ^ c) = e - R + 2 ^ c := by omega
  have hfuel : rightN f e (R - 2 ^ c) = rightN c e (R - 2 ^ c) := rightN_fuel c f e _ cf (by omega) rest
  obtain ⟨k, hk⟩ := ih c (by omega) (R - 2 ^ c) (out ++ [mkS (c, (e - R) / 2 ^ c)]) (by omega) rest (by omega) dvd (by rw [List.length_append, List.length_singleton]; omega)
  rw [hsub] at hk
  refine ⟨k + c + 2, ?_⟩
  rw [step_of k out (e - R) e c he c63 (by omega) ?_ (by omega) (.inr (.inr (by omega))) (by omega), hk, List.append_assoc, hfuel]
  · rfl
  · rw [even]; exact Nat.mul_mod_right _ _

/-- All nodes of the range from b to e. -/
theorem nodes_of {b e L R M d : Nat} (hm : Mid b e L R M d) (he : e < 18446744073709551616) : ∃ k, spec_Nodes.f k (b : Int) (e : Int) = some ((nodesN M e L R).map mkS) := by
  obtain ⟨lo, hi, d64, dvd, l, r, _, _⟩ := hm
  have hr := right_of e he d R ((leftN 64 M L).map mkS) (by omega) r (by omega) (by rw [show e - R = M by omega]; exact dvd) (by
    have := leftN_len 64 M L
    rw [List.length_map]; omega)
  rw [show e - R = M by omega, ← rightN_fuel d 64 e R (by omega) (by omega) r] at hr
  have hl := left_of M d e he (by omega) dvd (by omega) 64 L [] _ (by omega) l (by omega) (by simp) (by simp) (by simpa using hr)
  obtain ⟨k, hk⟩ := hl
  rw [show M - L = b by omega] at hk
  refine ⟨k, ?_⟩
  unfold spec_Nodes.f
  rw [hk, nodesN, List.map_append]

end Go.Proofs.YtfhcpniibiobgaaDoor.Pure
namespace Go.Proofs.YtfhcpniibiobgaaDoor.Pure
open Go.RowKit Go.Proofs.YtfhcpniibiobgaaDoor.Qf Go.Proofs.YtfhcpniibiobgaaDoorW.PrintWords Go.Proofs.YtfhcpniibiobgaaDoorW.PrintLast
open Go.Proofs.YtfhcpniibiobgaaDoor.M (leftN rightN nodesN lstep rstep rightN_fuel leftN_len rightN_len IsN pc y1 y2 y3)

theorem and64 (x m : Nat) (hx : x < 18446744073709551616) (hm : m < 18446744073709551616) : Go.bits .and .u64 (x : Int) (m : Int) = ((x &&& m : Nat) : Int) := bits_and_u64_nat x m hx hm

theorem bnd_of {z u w : Nat} (h : z ≤ 1085102592571150095) (hu : z + z / 256 = u) (hw : u + u / 65536 = w) : w + w / 4294967296 < 9223372036854775808 := by omega

theorem onesCount_of (x : Nat) (hx : x < 18446744073709551616) : bits_OnesCount64.f (x : Int) = some ((pc 64 x : Nat) : Int) := by
  unfold bits_OnesCount64.f
  have d2 : (x : Int) / 2 = ((x / 2 : Nat) : Int) := by omega
  have a1 : Go.bits .and .u64 ((x : Int) / 2) 6148914691236517205 = ((x / 2 &&& 6148914691236517205 : Nat) : Int) := by
    rw [d2]; exact and64 (x / 2) 6148914691236517205 (by omega) (by omega)
  have a2 : Go.bits .and .u64 (x : Int) 6148914691236517205 = ((x &&& 6148914691236517205 : Nat) : Int) := and64 x 6148914691236517205 hx (by omega)
  have l1 : x / 2 &&& 6148914691236517205 ≤ 6148914691236517205 := Nat.and_le_right
  have l2 : x &&& 6148914691236517205 ≤ 6148914691236517205 := Nat.and_le_right
  have s1 : IntKind.u64.wrap (Go.bits .and .u64 ((x : Int) / 2) 6148914691236517205 + Go.bits .and .u64 (x : Int) 6148914691236517205) = ((y1 6148914691236517205 x : Nat) : Int) := by
    rw [a1, a2, wu64 (by omega) (by omega)]
    unfold y1
    push_cast; rfl
  rw [s1]
  have k1 : y1 6148914691236517205 x < 18446744073709551616 := by unfold y1; omega
  obtain ⟨y, hy⟩ : ∃ y, y1 6148914691236517205 x = y := ⟨_, rfl⟩
  rw [hy] at k1 ⊢
  have d4 : (y : Int) / 4 = ((y / 4 : Nat) : Int) := by omega
  have a3 : Go.bits .and .u64 ((y : Int) / 4) 3689348814741910323 = ((y / 4 &&& 3689348814741910323 : Nat) : Int) := by
    rw [d4]; exact and64 (y / 4) 3689348814741910323 (by omega) (by omega)
  have a4 : Go.bits .and .u64 (y : Int) 3689348814741910323 = ((y &&& 3689348814741910323 : Nat) : Int) := and64 y 3689348814741910323 k1 (by omega)
  have l3 : y / 4 &&& 3689348814741910323 ≤ 3689348814741910323 := Nat.and_le_right
  have l4 : y &&& 3689348814741910323 ≤ 3689348814741910323 := Nat.and_le_right
  have s2 : IntKind.u64.wrap (Go.bits .and .u64 ((y : Int) / 4) 3689348814741910323 + Go.bits .and .u64 (y : Int) 3689348814741910323) = ((y2 3689348814741910323 y : Nat) : Int) := by
    rw [a3, a4, wu64 (by omega) (by omega)]
    unfold y2
    push_cast; rfl
  rw [s2]
  have k2 : y2 3689348814741910323 y ≤ 7378697629483820646 := by unfold y2; omega
  obtain ⟨v, hv⟩ : ∃ v, y2 3689348814741910323 y = v := ⟨_, rfl⟩
  rw [hv] at k2 ⊢
  have s3 : Go.bits .and .u64 (IntKind.u64.wrap ((v : Int) / 16 + (v : Int))) 1085102592571150095 = ((y3 1085102592571150095 v : Nat) : Int) := by
    rw [wu64 (by omega) (by omega), show (v : Int) / 16 + (v : Int) = ((v / 16 + v : Nat) : Int) by omega]
    exact and64 (v / 16 + v) 1085102592571150095 (by omega) (by omega)
  rw [s3]
  have k3 : y3 1085102592571150095 v ≤ 1085102592571150095 := Nat.and_le_right
  obtain ⟨z, hz⟩ : ∃ z, y3 1085102592571150095 v = z := ⟨_, rfl⟩
  rw [hz] at k3 ⊢
  have s4 : IntKind.u64.wrap ((z : Int) + (z : Int) / 256) = ((z + z / 256 : Nat) : Int) := by rw [wu64 (by omega) (by omega)]; omega
  rw [s4]
  obtain ⟨u, hu⟩ : ∃ u, z + z / 256 = u := ⟨_, rfl⟩
  rw [hu]
  have s5 : IntKind.u64.wrap ((u : Int) + (u : Int) / 65536) = ((u + u / 65536 : Nat) : Int) := by rw [wu64 (by omega) (by omega)]; omega
  rw [s5]
  obtain ⟨w, hw⟩ : ∃ w, u + u / 65536 = w := ⟨_, rfl⟩
  rw [hw]
  have s6 : wrap64 (IntKind.u64.wrap ((w : Int) + (w : Int) / 4294967296)) = ((w + w / 4294967296 : Nat) : Int) := by rw [wu64 (by omega) (by omega), w64 (by omega) (by omega)]; omega
  rw [s6]
  have hbnd : w + w / 4294967296 < 9223372036854775808 := bnd_of k3 hu hw
  have hs := M.swar x z u w hx (by rw [← hz, ← hv, ← hy]) hu.symm hw.symm
  have n63 : (2 : Nat) ^ 63 = 9223372036854775808 := by decide
  have hb := (bits_nat .i64 63 (by decide) (fun n h0 h1 => by
    have h63 : (2 : Int) ^ 63 = 9223372036854775808 := by decide
    rw [h63] at h1
    rw [IntKind.wrap_i64]; omega) (w + w / 4294967296) 127 (by rw [n63]; exact hbnd) (by rw [n63]; decide)).1
  have hmod : (w + w / 4294967296) &&& 127 = (w + w / 4294967296) % 128 := Nat.and_two_pow_sub_one_eq_mod _ 7
  rw [hmod, hs] at hb
  exact congrArg some hb

/-- The leaves of a node. -/
theorem size_add {n m a b : Nat} (h1 : n = a) (h2 : m = b) (h3 : n ≤ 64) (h4 : m ≤ 64) : wrap64 ((a : Int) + (b : Int)) = ((n + m : Nat) : Int) := by
  subst h1 h2
  rw [w64 (by omega) (by omega)]
  push_cast; rfl

theorem lt_of_cut {b e L R X : Nat} (lo : b + L = X) (hi : X + R = e) (he : e < 18446744073709551616) : L < 18446744073709551616 ∧ R < 18446744073709551616 := by omega

theorem len128 (X e L R : Nat) : (nodesN X e L R).length ≤ 128 := by
  have h1 := leftN_len 64 X L
  have h2 := rightN_len 64 e R
  rw [nodesN, List.length_append]
  exact Nat.add_le_add h1 h2

theorem size_raw {b e L R g1 g2 : Int} (hf : compact_Decompose.f b e = some (L, R)) (h1 : bits_OnesCount64.f L = some g1) (h2 : bits_OnesCount64.f R = some g2) :
    compact_RangeSize.f b e = some (wrap64 (g1 + g2)) := by
  unfold compact_RangeSize.f
  rw [hf, Option.bind_some, h1, Option.bind_some, h2, Option.bind_some]

theorem nodesN_len {X e L R d : Nat} (hd : d ≤ 64) (hr : R < 2 ^ d) : (nodesN X e L R).length = (leftN 64 X L).length + (rightN d e R).length := by
  rw [nodesN, M.rightN_fuel d 64 e R hd (Nat.le_refl _) hr, List.length_append]

theorem size_of {b e L R X d : Nat} (hf : compact_Decompose.f (b : Int) (e : Int) = some ((L : Int), (R : Int))) (hm : Mid b e L R X d) (he : e < 18446744073709551616) :
    compact_RangeSize.f (b : Int) (e : Int) = some (((nodesN X e L R).length : Nat) : Int) := by
  have hX : L ≤ X := by have := hm.lo; omega
  have hlt := lt_of_cut hm.lo hm.hi he
  have p1 := M.leftN_pc X d hm.d64 hm.dvd 64 L (Nat.le_refl _) hm.l hX (by simp)
  have p2 := M.rightN_pc e d R hm.d64 hm.r
  have q1 := leftN_len 64 X L
  have q := Nat.le_trans (rightN_len d e R) hm.d64
  have s := size_raw hf (onesCount_of L hlt.1) (onesCount_of R hlt.2)
  rw [nodesN_len hm.d64 hm.r]
  exact s.trans (congrArg some (size_add p1 p2 q1 q))

theorem cut_of {b e L R X d : Nat} (hm : Mid b e L R X d) : M.Cut b e L R X d := ⟨hm.lo, hm.hi, hm.d64, hm.dvd, hm.l, hm.r⟩

end Go.Proofs.YtfhcpniibiobgaaDoor.Pure
