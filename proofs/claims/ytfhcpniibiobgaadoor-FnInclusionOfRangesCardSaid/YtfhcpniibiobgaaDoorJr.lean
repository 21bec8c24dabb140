/- Several texts, joined. -/
import Derived.Test.YtfhcpniibiobgaaDoorJm
import Derived.Test.YtfhcpniibiobgaaDoorQfx3
import Derived.Test.YtfhcpniibiobgaaDoorQfx4
import Derived.Laws.Bits64b
import Derived.OpenShut
import Derived.Test.YtfhcpniibiobgaaDoorQfx2
import Derived.Test.YtfhcpniibiobgaaDoorQfx7
import Derived.Test.YtfhcpniibiobgaaDoorQfx6
namespace Go.Proofs.YtfhcpniibiobgaaDoor.Pure
open Go.RowKit Go.Proofs.YtfhcpniibiobgaaDoor.Qf Go.Proofs.YtfhcpniibiobgaaDoorW.PrintWords Go.Proofs.YtfhcpniibiobgaaDoorW.PrintLast
theorem w64 {n : Int} (h0 : -9223372036854775808 ≤ n) (h1 : n ≤ 9223372036854775807) : wrap64 n = n := by
  unfold wrap64; omega
theorem wu64 {n : Int} (h0 : 0 ≤ n) (h1 : n < 18446744073709551616) : IntKind.u64.wrap n = n := by
  show n % 18446744073709551616 = n
  omega
theorem shl_u64 {x y : Int} (x' y' : Nat) (hx : x = x') (hy : y = y') (h : x' * 2 ^ y' < 18446744073709551616) (hy64 : y' ≤ 64) : shl .u64 x y = ((x' * 2 ^ y' : Nat) : Int) := by
  subst hx hy
  unfold shl
  rw [Int.toNat_natCast, show min y' IntKind.u64.bits = y' from Nat.min_eq_left hy64]
  rw [show ((x' : Int) * 2 ^ y') = ((x' * 2 ^ y' : Nat) : Int) by push_cast; rfl]
  exact wu64 (by omega) (by omega)
theorem shr_u64 {x y : Int} (x' y' : Nat) (hx : x = x') (hy : y = y') (hx64 : x' < 18446744073709551616) : shr .u64 x y = ((x' / 2 ^ y' : Nat) : Int) := by
  subst hx hy
  unfold shr
  rw [Int.toNat_natCast]
  by_cases h : y' ≤ 64
  · rw [show min y' IntKind.u64.bits = y' from Nat.min_eq_left h]; push_cast; rfl
  · rw [show min y' IntKind.u64.bits = 64 from Nat.min_eq_right (by show 64 ≤ y'; omega)]
    have h1 : x' / 2 ^ y' = 0 := Nat.div_eq_of_lt (Nat.lt_of_lt_of_le (show x' < 2 ^ 64 by omega) (Nat.pow_le_pow_right (by omega) (by omega)))
    rw [h1]
    have h3 : (2 : Int) ^ 64 = 18446744073709551616 := by decide
    rw [h3]
    exact Int.ediv_eq_zero_of_lt (by omega) (by omega)
structure Mid (b e L R M d : Nat) : Prop where
  lo : b + L = M
  hi : M + R = e
  d64 : d ≤ 64
  dvd : 2 ^ d ∣ M
  l : L < 2 ^ d
  r : R < 2 ^ d
  zero : b = 0 → L = 0
  pow : b ≠ 0 → ∀ t, e = 2 ^ t → R = 0
theorem decompose_of (b e : Nat) (hbe : b ≤ e) (he : e < 18446744073709551616) :
    ∃ L R M d : Nat, compact_Decompose.f (b : Int) (e : Int) = some ((L : Int), (R : Int)) ∧ Mid b e L R M d := by
  unfold compact_Decompose.f
  by_cases hb0 : b = 0
  · subst hb0
    rw [if_pos (by simp)]
    exact ⟨0, e, 0, 64, rfl, by omega, by omega, by omega, by simp, by omega, by omega, fun _ => rfl, fun h => absurd rfl h⟩
  rw [if_neg (by omega)]
  obtain ⟨d, q, h1, h2, h3, h4, h5, h6, h7, h8⟩ := M.cut b e (by omega) hbe (by omega)
  have e1 : IntKind.u64.wrap ((b : Int) - 1) = ((b - 1 : Nat) : Int) := by rw [wu64 (by omega) (by omega)]; omega
  rw [e1, bits_xor_u64_nat _ _ (by omega) he]
  have e2 : bits_Len64.f (((b - 1) ^^^ e : Nat) : Int) = some ((d + 1 : Nat) : Int) := by
    unfold bits_Len64.f
    rw [if_pos (by omega), if_pos (by omega), Int.toNat_natCast, h1]
  rw [e2]
  simp only [Option.bind_some]
  have e3 : IntKind.u64.wrap (wrap64 (((d + 1 : Nat) : Int) - 1)) = (d : Int) := by rw [w64 (by omega) (by omega), wu64 (by omega) (by omega)]; omega
  rw [e3, if_pos (by omega)]
  have hD : 2 ^ d < 18446744073709551616 := by
    have : 2 ^ d ≤ 2 ^ 63 := Nat.pow_le_pow_right (by omega) h2
    omega
  have hD0 : 0 < 2 ^ d := Nat.two_pow_pos d
  have e4 : IntKind.u64.wrap (shl .u64 1 (d : Int) - 1) = ((2 ^ d - 1 : Nat) : Int) := by
    rw [shl_u64 (x := 1) (y := (d : Int)) 1 d rfl rfl (by omega) (by omega), Nat.one_mul, wu64 (by omega) (by omega)]; omega
  have e5 : Go.bits .xor .u64 18446744073709551615 ((b - 1 : Nat) : Int) = ((18446744073709551615 - (b - 1) : Nat) : Int) := by
    rw [show (18446744073709551615 : Int) = ((18446744073709551615 : Nat) : Int) from rfl, bits_xor_u64_nat _ _ (by omega) (by omega)]
    congr 1
    have : (18446744073709551615 : Nat) = 2 ^ 64 - 1 := by decide
    apply Nat.eq_of_testBit_eq
    intro i
    rw [Nat.testBit_xor, this, Nat.testBit_two_pow_sub_one, show 2 ^ 64 - 1 - (b - 1) = 2 ^ 64 - ((b - 1) + 1) by omega, Nat.testBit_two_pow_sub_succ (by omega)]
    by_cases hi : i < 64 <;> simp [hi]
    exact Nat.testBit_lt_two_pow (Nat.lt_of_lt_of_le (show b - 1 < 2 ^ 64 by omega) (Nat.pow_le_pow_right (by omega) (by omega)))
  rw [e4, e5, bits_and_u64_nat _ _ (by omega) (by omega), bits_and_u64_nat _ _ (by omega) (by omega), Nat.and_two_pow_sub_one_eq_mod, Nat.and_two_pow_sub_one_eq_mod]
  have e6 : (18446744073709551615 - (b - 1)) % 2 ^ d = 2 ^ d - 1 - (b - 1) % 2 ^ d := by
    have k1 : (18446744073709551616 : Nat) = 2 ^ d * 2 ^ (64 - d) := by rw [← Nat.pow_add, show d + (64 - d) = 64 by omega]
    have k2 := Nat.div_add_mod (b - 1) (2 ^ d)
    have k3 : (b - 1) / 2 ^ d < 2 ^ (64 - d) := by
      rw [Nat.div_lt_iff_lt_mul hD0, Nat.mul_comm, ← k1]; omega
    have k4 : 18446744073709551615 - (b - 1) = 2 ^ d * (2 ^ (64 - d) - 1 - (b - 1) / 2 ^ d) + (2 ^ d - 1 - (b - 1) % 2 ^ d) := by
      rw [Nat.mul_sub, Nat.mul_sub, ← k1, Nat.mul_one]
      have k5 : 2 ^ d * ((b - 1) / 2 ^ d) + 2 ^ d ≤ 18446744073709551616 := by
        rw [k1, ← Nat.mul_succ]; exact Nat.mul_le_mul_left _ k3
      generalize 2 ^ d * ((b - 1) / 2 ^ d) = u at *
      generalize (b - 1) % 2 ^ d = v at *
      generalize 2 ^ d = D at *
      omega
    rw [k4, Nat.mul_add_mod, Nat.mod_eq_of_lt (by omega)]
  rw [e6]
  refine ⟨_, _, 2 ^ d * q, d, rfl, h6, h5.symm, by omega, ⟨q, rfl⟩, by omega, h8, fun h => absurd h hb0, ?_⟩
  intro _ t ht
  have hq1 : 1 ≤ q := by omega
  have k1 : 2 ^ d ≤ 2 ^ t := by
    have : 2 ^ d * 1 ≤ 2 ^ d * q := Nat.mul_le_mul_left _ hq1
    rw [← ht]; omega
  have k2 : d ≤ t := (Nat.pow_le_pow_iff_right (by omega)).1 k1
  rw [ht]
  exact Nat.mod_eq_zero_of_dvd (Nat.pow_dvd_pow 2 k2)
end Go.Proofs.YtfhcpniibiobgaaDoor.Pure
namespace Go.Proofs.YtfhcpniibiobgaaDoor.Pure
open Go.RowKit Go.Proofs.YtfhcpniibiobgaaDoor.Qf Go.Proofs.YtfhcpniibiobgaaDoorW.PrintWords Go.Proofs.YtfhcpniibiobgaaDoorW.PrintLast
open Go.Proofs.YtfhcpniibiobgaaDoor.M (leftN rightN nodesN lstep rstep rightN_fuel leftN_len rightN_len IsN pc y1 y2 y3)
theorem pow_lt64 {c : Nat} (h : c ≤ 63) : 2 ^ c < 18446744073709551616 := by
  have : 2 ^ c ≤ 2 ^ 63 := Nat.pow_le_pow_right (by omega) h
  omega
def mk52 (x : Nat × Nat) : S52 := ⟨(x.1 : Int), (x.2 : Int)⟩
def mk108 (x : Nat × Nat) : S108 := ⟨(x.1 : Int), (x.2 : Int)⟩
theorem rd52 (pre : List (Nat × Nat)) (x : Nat × Nat) (post : List (Nat × Nat)) : rd_T52 ((pre ++ x :: post).map mk52) (pre.length : Int) = mk52 x := by
  unfold rd_T52
  rw [Int.toNat_natCast, List.getD_eq_getElem?_getD, List.getElem?_map, List.getElem?_append_right (Nat.le_refl _), Nat.sub_self]
  rfl
theorem rd108 (pre : List (Nat × Nat)) (x : Nat × Nat) (post : List (Nat × Nat)) : rd_T108 ((pre ++ x :: post).map mk108) (pre.length : Int) = mk108 x := by
  unfold rd_T108
  rw [Int.toNat_natCast, List.getD_eq_getElem?_getD, List.getElem?_map, List.getElem?_append_right (Nat.le_refl _), Nat.sub_self]
  rfl
theorem fromNodes_of (post : List (Nat × Nat)) : ∀ (k : Nat) (pre : List (Nat × Nat)) (out : List S52), out.length + post.length < 1000 → (pre ++ post).length < 1000 →
    impl_fromNodes.l0 (k + 1 + post.length) out ((pre ++ post).map mk108) (((pre ++ post).length : Nat) : Int) (pre.length : Int) = some (out ++ post.map mk52) := by
  induction post with
  | nil =>
    intro k pre out h h'
    simp [impl_fromNodes.l0]
  | cons x post ih =>
    intro k pre out h h'
    have hl : (pre ++ x :: post).length = pre.length + 1 + post.length := by simp; omega
    have hrd := rd108 pre x post
    rw [List.length_cons, show k + 1 + (post.length + 1) = (k + 1 + post.length) + 1 by omega]
    have hi := ih k (pre ++ [x]) (out ++ [mk52 x]) (by simp only [List.length_append, List.length_cons, List.length_nil] at h ⊢; omega) (by simp only [List.length_append, List.length_cons, List.length_nil] at h' ⊢; omega)
    generalize k + 1 + post.length = kk at *
    simp only [impl_fromNodes.l0]
    rw [hrd, if_pos (by omega), if_pos (by omega), if_pos (by rw [List.length_map]; omega)]
    have e1 : wrap64 ((pre.length : Int) + 1) = ((pre ++ [x]).length : Int) := by
      rw [hl] at h'
      rw [w64 (by omega) (by omega), List.length_append, List.length_singleton]; omega
    simp only [impl_fromNode.f, Option.bind_some]
    rw [if_pos (by rw [List.length_cons] at h; omega), e1]
    simp only [List.append_assoc, List.cons_append, List.nil_append] at hi
    simp only [List.map_cons]
    exact hi
theorem fromNodes_all (l : List (Nat × Nat)) (h : l.length < 1000) : ∃ k, impl_fromNodes.f k (l.map mk108) = some (l.map mk52) := by
  refine ⟨0 + 1 + l.length, ?_⟩
  unfold impl_fromNodes.f
  have := fromNodes_of l 0 [] [] (by simpa using h) (by simpa using h)
  simpa using this
theorem xor_pow {L c : Nat} (a : Nat) (ha : a.testBit c = false) (hL : a ||| 2 ^ c = L) : L ^^^ 2 ^ c = a := by
  subst hL
  apply Nat.eq_of_testBit_eq
  intro i
  rw [Nat.testBit_xor, Nat.testBit_or, Nat.testBit_two_pow]
  by_cases hi : c = i
  · subst hi; simp [ha]
  · simp [hi]
theorem or_pow {a c : Nat} (h : a < 2 ^ c) : a ||| 2 ^ c = a + 2 ^ c := by
  rw [Nat.or_comm, Nat.add_comm]
  have := Nat.two_pow_add_eq_or_of_lt h 1
  rw [Nat.mul_one] at this
  exact this.symm
theorem or_pow' {a c : Nat} (h : 2 ^ (c + 1) ∣ a) : a ||| 2 ^ c = a + 2 ^ c := by
  obtain ⟨u, rfl⟩ := h
  exact (Nat.two_pow_add_eq_or_of_lt (Nat.pow_lt_pow_right (by omega) (by omega)) u).symm
theorem xor_low {L c : Nat} (hle : 2 ^ c ≤ L) (h : 2 ^ (c + 1) ∣ L - 2 ^ c) : L ^^^ 2 ^ c = L - 2 ^ c := by
  refine xor_pow (L - 2 ^ c) ?_ (by rw [or_pow' h]; omega)
  obtain ⟨u, hu⟩ := h
  rw [hu, Nat.testBit_two_pow_mul]
  simp
  omega
theorem xor_top {R c : Nat} (hle : 2 ^ c ≤ R) (h : R - 2 ^ c < 2 ^ c) : R ^^^ 2 ^ c = R - 2 ^ c :=
  xor_pow (R - 2 ^ c) (Nat.testBit_lt_two_pow h) (by rw [or_pow h]; omega)
theorem right_run (e : Nat) (he : e < 18446744073709551616) (f : Nat) : ∀ (R : Nat) (out : List S108), f ≤ 64 → R < 2 ^ f → R ≤ e → 2 ^ f ∣ e - R → out.length + f < 1000 →
    ∃ k, compact_RangeNodes.l1 k out (R : Int) ((e - R : Nat) : Int) = some (out ++ (rightN f e R).map mk108) := by
  induction f using Nat.strongRecOn with
  | _ f ih =>
  intro R out hf hR hRe hdv hout
  by_cases h0 : R = 0
  · subst h0
    have : rightN f e 0 = [] := by cases f <;> simp [rightN]
    rw [this]
    exact ⟨1, by simp [compact_RangeNodes.l1]⟩
  obtain ⟨f, rfl⟩ : ∃ g, f = g + 1 := by
    refine ⟨f - 1, ?_⟩
    rcases Nat.eq_zero_or_pos f with h | h
    · subst h; simp at hR; omega
    · omega
  have hs := rstep f e R hf h0 hR hRe hdv
  have hun : rightN (f + 1) e R = (Lib.bitLen R - 1, (e - R) / 2 ^ (Lib.bitLen R - 1)) :: rightN f e (R - 2 ^ (Lib.bitLen R - 1)) := by
    rw [rightN, if_neg h0]
  have hR64 : R < 2 ^ 64 := Nat.lt_of_lt_of_le hR (Nat.pow_le_pow_right (by omega) hf)
  obtain ⟨b1, b2, _, _⟩ := M.len_spec R h0 hR64
  have hlen : bits_Len64.f (R : Int) = some ((Lib.bitLen R - 1 + 1 : Nat) : Int) := by
    unfold bits_Len64.f
    rw [if_pos (by omega), if_pos (by omega), Int.toNat_natCast]
    congr 2; omega
  rw [hun]
  generalize Lib.bitLen R - 1 = c at *
  obtain ⟨c63, cf, le, lt, rest, ⟨m, even⟩, dvd⟩ := hs
  have hsub : e - (R - 2 ^ c) = e - R + 2 ^ c := by omega
  have hfuel : rightN f e (R - 2 ^ c) = rightN c e (R - 2 ^ c) := rightN_fuel c f e _ cf (by omega) rest
  obtain ⟨k, hk⟩ := ih c (by omega) (R - 2 ^ c) (out ++ [mk108 (c, (e - R) / 2 ^ c)]) (by omega) rest (by omega) dvd (by rw [List.length_append, List.length_singleton]; omega)
  rw [hsub] at hk
  have hpc := pow_lt64 c63
  refine ⟨k + 1, ?_⟩
  simp only [compact_RangeNodes.l1]
  have e1 : IntKind.u64.wrap ((IntKind.u64.wrap ((c + 1 : Nat) : Int)) - 1) = (c : Int) := by rw [wu64 (n := ((c + 1 : Nat) : Int)) (by omega) (by omega), wu64 (by omega) (by omega)]; omega
  rw [if_neg (by omega), hlen]
  simp only [Option.bind_some, e1, compact_NewNodeID.f]
  rw [if_pos (by omega), if_pos (by omega), shr_u64 (e - R) c rfl rfl (by omega), shl_u64 (x := 1) (y := (c : Int)) 1 c rfl rfl (by omega) (by omega), Nat.one_mul, bits_xor_u64_nat _ _ (by omega) hpc, xor_top le rest, wu64 (by omega) (by omega)]
  rw [show ((e - R : Nat) : Int) + ((2 ^ c : Nat) : Int) = ((e - R + 2 ^ c : Nat) : Int) by push_cast; rfl, hfuel]
  have : out ++ ((c, (e - R) / 2 ^ c) :: rightN c e (R - 2 ^ c)).map mk108 = out ++ [mk108 (c, (e - R) / 2 ^ c)] ++ (rightN c e (R - 2 ^ c)).map mk108 := by simp
  rw [this]
  exact hk
theorem left_run (M d e R : Nat) (he : e < 18446744073709551616) (hd : d ≤ 64) (hM : 2 ^ d ∣ M) (hMe : M ≤ e) (f : Nat) :
    ∀ (L : Nat) (out : List S108) (r : List S108), f ≤ 64 → L < 2 ^ d → L ≤ M → 2 ^ (64 - f) ∣ L → out.length + f < 1000 →
      (∃ k, compact_RangeNodes.l1 k (out ++ (leftN f M L).map mk108) (R : Int) (M : Int) = some r) → ∃ k, compact_RangeNodes.l0 k out (L : Int) (R : Int) ((M - L : Nat) : Int) = some r := by
  induction f with
  | zero =>
    intro L out r _ hL _ hdv _ h
    have h0 : L = 0 := Nat.eq_zero_of_dvd_of_lt hdv (Nat.lt_of_lt_of_le hL (Nat.pow_le_pow_right (by omega) hd))
    subst h0
    obtain ⟨k, hk⟩ := h
    exact ⟨k + 1, by simpa [leftN, compact_RangeNodes.l0] using hk⟩
  | succ f ih =>
    intro L out r hf hL hLM hdv hout h
    by_cases h0 : L = 0
    · subst h0
      obtain ⟨k, hk⟩ := h
      exact ⟨k + 1, by simpa [leftN, compact_RangeNodes.l0] using hk⟩
    have hs := lstep f d M L hf h0 hL hd hM hLM hdv
    have hctz : bits_TrailingZeros64.f (L : Int) = some ((Lib.ctz 64 L : Nat) : Int) := by
      have hL64 : L < 2 ^ 64 := Nat.lt_of_lt_of_le hL (Nat.pow_le_pow_right (by omega) hd)
      unfold bits_TrailingZeros64.f
      rw [if_pos (by omega), if_pos (by omega), Int.toNat_natCast]
    unfold leftN at h
    rw [if_neg h0] at h
    generalize Lib.ctz 64 L = c at *
    obtain ⟨c63, cd, fc, le, dvd, ⟨m, odd⟩, low⟩ := hs
    rw [List.map_cons, List.append_cons] at h
    have hsub : M - (L - 2 ^ c) = M - L + 2 ^ c := by omega
    have hlt : L - 2 ^ c < 2 ^ d := by omega
    obtain ⟨k, hk⟩ := ih (L - 2 ^ c) (out ++ [mk108 (c, (M - L) / 2 ^ c)]) r (by omega) hlt (by omega) (Nat.dvd_trans (Nat.pow_dvd_pow 2 (by omega)) dvd) (by rw [List.length_append, List.length_singleton]; omega) h
    rw [hsub] at hk
    have hpc := pow_lt64 c63
    refine ⟨k + 1, ?_⟩
    simp only [compact_RangeNodes.l0]
    have e1 : IntKind.u64.wrap (c : Int) = (c : Int) := wu64 (by omega) (by omega)
    rw [if_neg (by omega), hctz]
    simp only [Option.bind_some, e1, compact_NewNodeID.f]
    rw [if_pos (by omega), if_pos (by omega), shr_u64 (M - L) c rfl rfl (by omega), shl_u64 (x := 1) (y := (c : Int)) 1 c rfl rfl (by omega) (by omega), Nat.one_mul, bits_xor_u64_nat _ _ (by omega) hpc, xor_low le dvd, wu64 (by omega) (by omega)]
    rw [show ((M - L : Nat) : Int) + ((2 ^ c : Nat) : Int) = ((M - L + 2 ^ c : Nat) : Int) by push_cast; rfl]
    exact hk
theorem rangeNodes_of {b e L R M d : Nat} (hf : compact_Decompose.f (b : Int) (e : Int) = some ((L : Int), (R : Int))) (hm : Mid b e L R M d) (he : e < 18446744073709551616) (out : List S108) (ho : out.length < 800) :
    ∃ k, compact_RangeNodes.f k (b : Int) (e : Int) out = some (out ++ (nodesN M e L R).map mk108) := by
  obtain ⟨lo, hi, d64, dvd, l, r, _, _⟩ := hm
  have hl := leftN_len 64 M L
  have hr := right_run e he d R (out ++ (leftN 64 M L).map mk108) (by omega) r (by omega) (by rw [show e - R = M by omega]; exact dvd) (by
    rw [List.length_append, List.length_map]; omega)
  rw [show e - R = M by omega, ← rightN_fuel d 64 e R (by omega) (by omega) r] at hr
  obtain ⟨k, hk⟩ := left_run M d e R he (by omega) dvd (by omega) 64 L out _ (by omega) l (by omega) (by simp) (by omega) hr
  rw [show M - L = b by omega] at hk
  refine ⟨k, ?_⟩
  unfold compact_RangeNodes.f
  rw [hf]
  simp only [Option.bind_some]
  rw [hk, nodesN, List.map_append, List.append_assoc]
theorem and64 (x m : Nat) (hx : x < 18446744073709551616) (hm : m < 18446744073709551616) : Go.bits .and .u64 (x : Int) (m : Int) = ((x &&& m : Nat) : Int) := bits_and_u64_nat x m hx hm
theorem bnd_of {z u w : Nat} (h : z ≤ 1085102592571150095) (hu : z + z / 256 = u) (hw : u + u / 65536 = w) : w + w / 4294967296 < 9223372036854775808 := by omega
theorem onesCount_of (x : Nat) (hx : x < 18446744073709551616) : bits_OnesCount64.f (x : Int) = some ((pc 64 x : Nat) : Int) := by
  unfold bits_OnesCount64.f
  have d2 : (x : Int) / 2 = ((x / 2 : Nat) : Int) := by omega
  have a1 : Go.bits .and .u64 ((x : Int) / 2) 6148914691236517205 = ((x / 2 &&& 6148914691236517205 : Nat) : Int) := by
    rw [d2]; exact and64 (x / 2) 6148914691236517205 (by omega) (by omega)
  have a2 : Go.bits .and .u64 (x : Int) 6148914691236517205 = ((x &&& 6148914691236517205 : Nat) : Int) := and64 x 6148914691236517205 hx (by omega)
  have l1 : x / 2 &&& 6148914691236517205 ≤ 6148914691236517205 := Nat.and_le_right
  have l2 : x &&& 6148914691236517205 ≤ 6148914691236517205 := Nat.and_le_right
  have s1 : IntKind.u64.wrap (Go.bits .and .u64 ((x : Int) / 2) 6148914691236517205 + Go.bits .and .u64 (x : Int) 6148914691236517205) = ((y1 6148914691236517205 x : Nat) : Int) := by
    rw [a1, a2, wu64 (by omega) (by omega)]
    unfold y1
    push_cast; rfl
  rw [s1]
  have k1 : y1 6148914691236517205 x < 18446744073709551616 := by unfold y1; omega
  obtain ⟨y, hy⟩ : ∃ y, y1 6148914691236517205 x = y := ⟨_, rfl⟩
  rw [hy] at k1 ⊢
  have d4 : (y : Int) / 4 = ((y / 4 : Nat) : Int) := by omega
  have a3 : Go.bits .and .u64 ((y : Int) / 4) 3689348814741910323 = ((y / 4 &&& 3689348814741910323 : Nat) : Int) := by
    rw [d4]; exact and64 (y / 4) 3689348814741910323 (by omega) (by omega)
  have a4 : Go.bits .and .u64 (y : Int) 3689348814741910323 = ((y &&& 3689348814741910323 : Nat) : Int) := and64 y 3689348814741910323 k1 (by omega)
  have l3 : y / 4 &&& 3689348814741910323 ≤ 3689348814741910323 := Nat.and_le_right
  have l4 : y &&& 3689348814741910323 ≤ 3689348814741910323 := Nat.and_le_right
  have s2 : IntKind.u64.wrap (Go.bits .and .u64 ((y : Int) / 4) 3689348814741910323 + Go.bits .and .u64 (y : Int) 3689348814741910323) = ((y2 3689348814741910323 y : Nat) : Int) := by
    rw [a3, a4, wu64 (by omega) (by omega)]
    unfold y2
    push_cast; rfl
  rw [s2]
  have k2 : y2 3689348814741910323 y ≤ 7378697629483820646 := by unfold y2; omega
  obtain ⟨v, hv⟩ : ∃ v, y2 3689348814741910323 y = v := ⟨_, rfl⟩
  rw [hv] at k2 ⊢
  have s3 : Go.bits .and .u64 (IntKind.u64.wrap ((v : Int) / 16 + (v : Int))) 1085102592571150095 = ((y3 1085102592571150095 v : Nat) : Int) := by
    rw [wu64 (by omega) (by omega), show (v : Int) / 16 + (v : Int) = ((v / 16 + v : Nat) : Int) by omega]
    exact and64 (v / 16 + v) 1085102592571150095 (by omega) (by omega)
  rw [s3]
  have k3 : y3 1085102592571150095 v ≤ 1085102592571150095 := Nat.and_le_right
  obtain ⟨z, hz⟩ : ∃ z, y3 1085102592571150095 v = z := ⟨_, rfl⟩
  rw [hz] at k3 ⊢
  have s4 : IntKind.u64.wrap ((z : Int) + (z : Int) / 256) = ((z + z / 256 : Nat) : Int) := by rw [wu64 (by omega) (by omega)]; omega
  rw [s4]
  obtain ⟨u, hu⟩ : ∃ u, z + z / 256 = u := ⟨_, rfl⟩
  rw [hu]
  have s5 : IntKind.u64.wrap ((u : Int) + (u : Int) / 65536) = ((u + u / 65536 : Nat) : Int) := by rw [wu64 (by omega) (by omega)]; omega
  rw [s5]
  obtain ⟨w, hw⟩ : ∃ w, u + u / 65536 = w := ⟨_, rfl⟩
  rw [hw]
  have s6 : wrap64 (IntKind.u64.wrap ((w : Int) + (w : Int) / 4294967296)) = ((w + w / 4294967296 : Nat) : Int) := by rw [wu64 (by omega) (by omega), w64 (by omega) (by omega)]; omega
  rw [s6]
  have hbnd : w + w / 4294967296 < 9223372036854775808 := bnd_of k3 hu hw
  have hs := M.swar x z u w hx (by rw [← hz, ← hv, ← hy]) hu.symm hw.symm
  have n63 : (2 : Nat) ^ 63 = 9223372036854775808 := by decide
  have hb := (bits_nat .i64 63 (by decide) (fun n h0 h1 => by
    have h63 : (2 : Int) ^ 63 = 9223372036854775808 := by decide
    rw [h63] at h1
    rw [IntKind.wrap_i64]; omega) (w + w / 4294967296) 127 (by rw [n63]; exact hbnd) (by rw [n63]; decide)).1
  have hmod : (w + w / 4294967296) &&& 127 = (w + w / 4294967296) % 128 := Nat.and_two_pow_sub_one_eq_mod _ 7
  rw [hmod, hs] at hb
  exact congrArg some hb
theorem size_add {n m a b : Nat} (h1 : n = a) (h2 : m = b) (h3 : n ≤ 64) (h4 : m ≤ 64) : wrap64 ((a : Int) + (b : Int)) = ((n + m : Nat) : Int) := by
  subst h1 h2
  rw [w64 (by omega) (by omega)]
  push_cast; rfl
theorem lt_of_cut {b e L R X : Nat} (lo : b + L = X) (hi : X + R = e) (he : e < 18446744073709551616) : L < 18446744073709551616 ∧ R < 18446744073709551616 := by omega
theorem len128 (X e L R : Nat) : (nodesN X e L R).length ≤ 128 := by
  have h1 := leftN_len 64 X L
  have h2 := rightN_len 64 e R
  rw [nodesN, List.length_append]
  exact Nat.add_le_add h1 h2
theorem size_raw {b e L R g1 g2 : Int} (hf : compact_Decompose.f b e = some (L, R)) (h1 : bits_OnesCount64.f L = some g1) (h2 : bits_OnesCount64.f R = some g2) :
    compact_RangeSize.f b e = some (wrap64 (g1 + g2)) := by
  unfold compact_RangeSize.f
  rw [hf, Option.bind_some, h1, Option.bind_some, h2, Option.bind_some]
theorem nodesN_len {X e L R d : Nat} (hd : d ≤ 64) (hr : R < 2 ^ d) : (nodesN X e L R).length = (leftN 64 X L).length + (rightN d e R).length := by
  rw [nodesN, M.rightN_fuel d 64 e R hd (Nat.le_refl _) hr, List.length_append]
theorem size_of {b e L R X d : Nat} (hf : compact_Decompose.f (b : Int) (e : Int) = some ((L : Int), (R : Int))) (hm : Mid b e L R X d) (he : e < 18446744073709551616) :
    compact_RangeSize.f (b : Int) (e : Int) = some (((nodesN X e L R).length : Nat) : Int) := by
  have hX : L ≤ X := by have := hm.lo; omega
  have hlt := lt_of_cut hm.lo hm.hi he
  have p1 := M.leftN_pc X d hm.d64 hm.dvd 64 L (Nat.le_refl _) hm.l hX (by simp)
  have p2 := M.rightN_pc e d R hm.d64 hm.r
  have q1 := leftN_len 64 X L
  have q := Nat.le_trans (rightN_len d e R) hm.d64
  have s := size_raw hf (onesCount_of L hlt.1) (onesCount_of R hlt.2)
  rw [nodesN_len hm.d64 hm.r]
  exact s.trans (congrArg some (size_add p1 p2 q1 q))
theorem cut_of {b e L R X d : Nat} (hm : Mid b e L R X d) : M.Cut b e L R X d := ⟨hm.lo, hm.hi, hm.d64, hm.dvd, hm.l, hm.r⟩
end Go.Proofs.YtfhcpniibiobgaaDoor.Pure
namespace Go.Proofs.YtfhcpniibiobgaaDoor.Pure
open Go.RowKit Go.Proofs.YtfhcpniibiobgaaDoor.Qf Go.Proofs.YtfhcpniibiobgaaDoorW.PrintWords Go.Proofs.YtfhcpniibiobgaaDoorW.PrintLast
open Go.Proofs.YtfhcpniibiobgaaDoor.M (leftN rightN nodesN lstep rstep rightN_fuel leftN_len rightN_len)
theorem level_of (k : Nat) (out : List S52) (p e c : Nat) (he : e < 18446744073709551616) (hc : c ≤ 63) (hp : p < e)
    (hev : p % 2 ^ c = 0) (hle : 2 ^ c ≤ e - p) (hstop : c = 63 ∨ p / 2 ^ c % 2 = 1 ∨ e - p < 2 ^ (c + 1)) (hl : out.length < 8796093022208) :
    ∀ i j : Nat, j + i = c → spec_Nodes.l1 (k + i + 1) out (j : Int) (p : Int) (e : Int) = spec_Nodes.l0 k (out ++ [mk52 (c, p / 2 ^ c)]) ((p + 2 ^ c : Nat) : Int) (e : Int) := by
  intro i
  have hpc := pow_lt64 hc
  have hshr : ∀ j : Nat, shr .u64 (p : Int) (j : Int) = ((p / 2 ^ j : Nat) : Int) := fun j => shr_u64 p j rfl rfl (by omega)
  have hbit : ∀ j : Nat, Go.bits .and .u64 ((p / 2 ^ j : Nat) : Int) 1 = ((p / 2 ^ j % 2 : Nat) : Int) := by
    intro j
    have h1 : p / 2 ^ j ≤ p := Nat.div_le_self _ _
    rw [show (1 : Int) = ((1 : Nat) : Int) from rfl, bits_and_u64_nat _ _ (by omega) (by omega), Nat.and_one_is_mod]
  have happ : (if out.length < 8796093022208 then (spec_Nodes.l0 k (out ++ [(⟨(c : Int), shr .u64 (p : Int) (c : Int)⟩ : S52)]) (IntKind.u64.wrap ((p : Int) + (shl .u64 1 (c : Int)))) (e : Int)) else none) =
      spec_Nodes.l0 k (out ++ [mk52 (c, p / 2 ^ c)]) ((p + 2 ^ c : Nat) : Int) (e : Int) := by
    rw [if_pos hl, hshr, shl_u64 (x := 1) (y := (c : Int)) 1 c rfl rfl (by omega) (by omega), Nat.one_mul, wu64 (by omega) (by omega)]
    have : (p : Int) + ((2 ^ c : Nat) : Int) = ((p + 2 ^ c : Nat) : Int) := by push_cast; rfl
    rw [this]
    rfl
  induction i with
  | zero =>
    intro j hj
    obtain rfl : j = c := by omega
    simp only [spec_Nodes.l1]
    by_cases h63 : (j : Int) < 63
    · rw [if_pos h63, if_pos (by omega), hshr, hbit]
      by_cases hb : ((p / 2 ^ j % 2 : Nat) : Int) = 0
      · rw [if_pos hb]
        have e1 : IntKind.u64.wrap ((j : Int) + 1) = ((j + 1 : Nat) : Int) := by rw [wu64 (by omega) (by omega)]; omega
        have hlt : e - p < 2 ^ (j + 1) := by rcases hstop with h | h | h <;> omega
        have hpj := pow_lt64 (show j + 1 ≤ 63 by omega)
        rw [e1, if_pos (by omega), shl_u64 (x := 1) (y := ((j + 1 : Nat) : Int)) 1 (j + 1) rfl rfl (by omega) (by omega), Nat.one_mul, if_neg (by rw [wu64 (by omega) (by omega)]; omega)]
        have happ' := happ
        rw [hshr] at happ'
        exact happ'
      · rw [if_neg hb]
        have happ' := happ
        rw [hshr] at happ'
        exact happ'
    · rw [if_neg h63, if_pos (by omega)]
      exact happ
  | succ i ih =>
    intro j hj
    have hjc : j < c := by omega
    rw [show k + (i + 1) + 1 = (k + i + 1) + 1 by omega]
    have hih := ih (j + 1) (by omega)
    generalize k + i + 1 = kk at *
    simp only [spec_Nodes.l1]
    rw [if_pos (by omega), if_pos (by omega), hshr, hbit]
    have h0 : p / 2 ^ j % 2 = 0 := by
      obtain ⟨u, hu⟩ := Nat.dvd_of_mod_eq_zero hev
      obtain ⟨g, rfl⟩ : ∃ g, c = j + 1 + g := ⟨c - j - 1, by omega⟩
      rw [hu, Nat.pow_add, Nat.pow_succ, Nat.mul_assoc, Nat.mul_assoc, Nat.mul_div_cancel_left _ (Nat.two_pow_pos j)]
      omega
    rw [h0, if_pos (show ((0 : Nat) : Int) = 0 from rfl)]
    have e1 : IntKind.u64.wrap ((j : Int) + 1) = ((j + 1 : Nat) : Int) := by rw [wu64 (by omega) (by omega)]; omega
    have hpj := pow_lt64 (show j + 1 ≤ 63 by omega)
    have hple : 2 ^ (j + 1) ≤ 2 ^ c := Nat.pow_le_pow_right (by omega) (by omega)
    rw [e1, if_pos (by omega), shl_u64 (x := 1) (y := ((j + 1 : Nat) : Int)) 1 (j + 1) rfl rfl (by omega) (by omega), Nat.one_mul, if_pos (by rw [wu64 (by omega) (by omega)]; omega)]
    exact hih
theorem step_of (k : Nat) (out : List S52) (p e c : Nat) (he : e < 18446744073709551616) (hc : c ≤ 63) (hp : p < e)
    (hev : p % 2 ^ c = 0) (hle : 2 ^ c ≤ e - p) (hstop : c = 63 ∨ p / 2 ^ c % 2 = 1 ∨ e - p < 2 ^ (c + 1)) (hl : out.length < 8796093022208) :
    spec_Nodes.l0 (k + c + 2) out (p : Int) (e : Int) = spec_Nodes.l0 k (out ++ [mk52 (c, p / 2 ^ c)]) ((p + 2 ^ c : Nat) : Int) (e : Int) := by
  rw [show k + c + 2 = (k + c + 1) + 1 by omega]
  simp only [spec_Nodes.l0]
  rw [if_pos (by omega)]
  exact level_of k out p e c he hc hp hev hle hstop hl c 0 (by omega)
theorem left_of (M d e : Nat) (he : e < 18446744073709551616) (hd : d ≤ 64) (hM : 2 ^ d ∣ M) (hMe : M ≤ e) (f : Nat) :
    ∀ (L : Nat) (out : List S52) (r : List S52), f ≤ 64 → L < 2 ^ d → L ≤ M → 2 ^ (64 - f) ∣ L → out.length + f < 1000 →
      (∃ k, spec_Nodes.l0 k (out ++ (leftN f M L).map mk52) (M : Int) (e : Int) = some r) → ∃ k, spec_Nodes.l0 k out ((M - L : Nat) : Int) (e : Int) = some r := by
  induction f with
  | zero =>
    intro L out r _ hL _ hdv _ h
    have h0 : L = 0 := by
      obtain ⟨u, hu⟩ := hdv
      have : 2 ^ d ≤ 2 ^ 64 := Nat.pow_le_pow_right (by omega) hd
      have hu0 : u = 0 := by
        rcases Nat.eq_zero_or_pos u with h | h
        · exact h
        · exfalso
          have : 2 ^ 64 * 1 ≤ 2 ^ 64 * u := Nat.mul_le_mul_left _ h
          omega
      rw [hu, hu0, Nat.mul_zero]
    subst h0
    simpa [leftN] using h
  | succ f ih =>
    intro L out r hf hL hLM hdv hout h
    by_cases h0 : L = 0
    · subst h0
      simpa [leftN] using h
    have hs := lstep f d M L hf h0 hL hd hM hLM hdv
    unfold leftN at h
    rw [if_neg h0] at h
    generalize Lib.ctz 64 L = c at *
    obtain ⟨c63, cd, fc, le, dvd, ⟨m, odd⟩, low⟩ := hs
    rw [List.map_cons, List.append_cons] at h
    have hsub : M - (L - 2 ^ c) = M - L + 2 ^ c := by omega
    have hlt : L - 2 ^ c < 2 ^ d := by omega
    obtain ⟨k, hk⟩ := ih (L - 2 ^ c) (out ++ [mk52 (c, (M - L) / 2 ^ c)]) r (by omega) hlt (by omega) (Nat.dvd_trans (Nat.pow_dvd_pow 2 (by omega)) dvd) (by rw [List.length_append, List.length_singleton]; omega) h
    rw [hsub] at hk
    refine ⟨k + c + 2, ?_⟩
    rw [step_of k out (M - L) e c he c63 (by omega) ?_ (by omega) (.inr (.inl ?_)) (by omega)]
    · exact hk
    · rw [odd]; exact Nat.mul_mod_right _ _
    · rw [odd, Nat.mul_div_cancel_left _ (Nat.two_pow_pos c)]; omega
theorem right_of (e : Nat) (he : e < 18446744073709551616) (f : Nat) :
    ∀ (R : Nat) (out : List S52), f ≤ 64 → R < 2 ^ f → R ≤ e → 2 ^ f ∣ e - R → out.length + f < 1000 →
      ∃ k, spec_Nodes.l0 k out ((e - R : Nat) : Int) (e : Int) = some (out ++ (rightN f e R).map mk52) := by
  induction f using Nat.strongRecOn with
  | _ f ih =>
  intro R out hf hR hRe hdv hout
  by_cases h0 : R = 0
  · subst h0
    refine ⟨1, ?_⟩
    have : rightN f e 0 = [] := by cases f <;> simp [rightN]
    rw [this]
    simp [spec_Nodes.l0]
  obtain ⟨f, rfl⟩ : ∃ g, f = g + 1 := by
    refine ⟨f - 1, ?_⟩
    rcases Nat.eq_zero_or_pos f with h | h
    · subst h; simp at hR; omega
    · omega
  have hs := rstep f e R hf h0 hR hRe hdv
  have hun : rightN (f + 1) e R = (Lib.bitLen R - 1, (e - R) / 2 ^ (Lib.bitLen R - 1)) :: rightN f e (R - 2 ^ (Lib.bitLen R - 1)) := by
    rw [rightN, if_neg h0]
  rw [hun]
  generalize Lib.bitLen R - 1 = c at *
  obtain ⟨c63, cf, le, lt, rest, ⟨m, even⟩, dvd⟩ := hs
  have hsub : e - (R - 2 ^ c) = e - R + 2 ^ c := by omega
  have hfuel : rightN f e (R - 2 ^ c) = rightN c e (R - 2 ^ c) := rightN_fuel c f e _ cf (by omega) rest
  obtain ⟨k, hk⟩ := ih c (by omega) (R - 2 ^ c) (out ++ [mk52 (c, (e - R) / 2 ^ c)]) (by omega) rest (by omega) dvd (by rw [List.length_append, List.length_singleton]; omega)
  rw [hsub] at hk
  refine ⟨k + c + 2, ?_⟩
  rw [step_of k out (e - R) e c he c63 (by omega) ?_ (by omega) (.inr (.inr (by omega))) (by omega), hk, List.append_assoc, hfuel]
  · rfl
  · rw [even]; exact Nat.mul_mod_right _ _
theorem nodes_of {b e L R M d : Nat} (hm : Mid b e L R M d) (he : e < 18446744073709551616) : ∃ k, spec_Nodes.f k (b : Int) (e : Int) = some ((nodesN M e L R).map mk52) := by
  obtain ⟨lo, hi, d64, dvd, l, r, _, _⟩ := hm
  have hr := right_of e he d R ((leftN 64 M L).map mk52) (by omega) r (by omega) (by rw [show e - R = M by omega]; exact dvd) (by
    have := leftN_len 64 M L
    rw [List.length_map]; omega)
  rw [show e - R = M by omega, ← rightN_fuel d 64 e R (by omega) (by omega) r] at hr
  have hl := left_of M d e he (by omega) dvd (by omega) 64 L [] _ (by omega) l (by omega) (by simp) (by simp) (by simpa using hr)
  obtain ⟨k, hk⟩ := hl
  rw [show M - L = b by omega] at hk
  refine ⟨k, ?_⟩
  unfold spec_Nodes.f
  rw [hk, nodesN, List.map_append]
theorem specNodes_ev (b e : Nat) (hbe : b ≤ e) (he : e < 18446744073709551616) {W : List (Nat × Nat)} (hW : M.IsN b e W) : Ev (fun k => spec_Nodes.f k (b : Int) (e : Int)) (W.map mk52) := by
  obtain ⟨L, R, X, d, hf, hm⟩ := decompose_of b e hbe he
  obtain ⟨k, hk⟩ := nodes_of hm he
  obtain rfl := M.isN_uniq hW (M.isN_cut (cut_of hm))
  exact Ev.of (fun _ => spec_Nodes.mono _ _ _) hk
end Go.Proofs.YtfhcpniibiobgaaDoor.Pure
namespace Go.Proofs.YtfhcpniibiobgaaDoor.Pure
open Go.RowKit Go.Proofs.YtfhcpniibiobgaaDoor.Qf Go.Proofs.YtfhcpniibiobgaaDoorW.PrintWords Go.Proofs.YtfhcpniibiobgaaDoorW.PrintLast
open Go.Proofs.YtfhcpniibiobgaaDoor.M (leftN rightN nodesN IsN sibs sibs_length xor1_even)
theorem range_of (b e : Nat) (hbe : b ≤ e) (he : e < 18446744073709551616) : ∃ W : List (Nat × Nat), IsN b e W ∧ W.length ≤ 128 ∧ compact_RangeSize.f (b : Int) (e : Int) = some ((W.length : Nat) : Int) ∧
    ∀ out : List S108, out.length < 800 → Ev (fun k => compact_RangeNodes.f k (b : Int) (e : Int) out) (out ++ W.map mk108) := by
  obtain ⟨L, R, X, d, hf, hm⟩ := decompose_of b e hbe he
  refine ⟨nodesN X e L R, M.isN_cut (cut_of hm), len128 _ _ _ _, size_of hf hm he, ?_⟩
  intro out ho
  obtain ⟨k, hk⟩ := rangeNodes_of hf hm he out ho
  exact Ev.of (fun _ => compact_RangeNodes.mono _ _ _ _) hk
theorem rd_mid (A : List S108) (x : S108) (B : List S108) (i : Int) (hi : i = (A.length : Int)) : rd_T108 (A ++ x :: B) i = x := by
  subst hi
  unfold rd_T108
  rw [Int.toNat_natCast, List.getD_eq_getElem?_getD, List.getElem?_append_right (Nat.le_refl _), Nat.sub_self]
  rfl
theorem set_mid (A : List S108) (x y : S108) (B : List S108) (i : Int) (hi : i = (A.length : Int)) : (A ++ x :: B).set i.toNat y = A ++ y :: B := by
  subst hi
  rw [Int.toNat_natCast, List.set_append_right _ _ (Nat.le_refl _), Nat.sub_self, List.set_cons_zero]
theorem rev_of : ∀ (n : Nat) (M A B : List S108), M.length = n → A.length + M.length + B.length < 4611686018427387904 →
    Ev (fun k => proof_reverse.l0 k (A ++ M ++ B) (A.length : Int) ((A.length : Int) + (M.length : Int) - 1)) (A ++ M.reverse ++ B) := by
  intro n
  induction n using Nat.strongRecOn with
  | _ n ih =>
  intro M A B hn hlen
  rcases Nat.lt_or_ge M.length 2 with h2 | h2
  · have hr : M.reverse = M := by
      match M, h2 with
      | [], _ => rfl
      | [_], _ => rfl
    rw [hr]
    refine Ev.step (f := fun _ => some (A ++ M ++ B)) ?_ (Ev.now _)
    intro k
    simp only [proof_reverse.l0]
    rw [if_neg (by omega)]
  · obtain ⟨x, M1, rfl⟩ : ∃ x M1, M = x :: M1 := by
      cases M with
      | nil => simp at h2
      | cons x M1 => exact ⟨x, M1, rfl⟩
    have hne : M1 ≠ [] := by
      rintro rfl
      simp at h2
    obtain ⟨M2, y, rfl⟩ : ∃ M2 y, M1 = M2 ++ [y] := ⟨M1.dropLast, M1.getLast hne, (List.dropLast_concat_getLast hne).symm⟩
    have hl : (x :: (M2 ++ [y])).length = M2.length + 2 := by simp
    have ih1 := ih M2.length (by omega) M2 (A ++ [y]) (x :: B) rfl (by simp only [List.length_append, List.length_cons, List.length_nil] at hlen ⊢; omega)
    have e0 : A ++ x :: (M2 ++ [y]) ++ B = A ++ x :: (M2 ++ y :: B) := by simp
    have e1 : A ++ x :: (M2 ++ y :: B) = (A ++ x :: M2) ++ y :: B := by simp
    have e3 : (A ++ y :: M2) ++ x :: B = A ++ [y] ++ M2 ++ (x :: B) := by simp
    have r1 : rd_T108 (A ++ x :: (M2 ++ [y]) ++ B) (A.length : Int) = x := by rw [e0]; exact rd_mid A x _ _ rfl
    have r2 : rd_T108 (A ++ x :: (M2 ++ [y]) ++ B) ((A.length : Int) + ((x :: (M2 ++ [y])).length : Int) - 1) = y := by
      rw [e0, e1]
      exact rd_mid _ y B _ (by simp only [List.length_append, List.length_cons, List.length_nil]; omega)
    have s1 : (A ++ x :: (M2 ++ [y]) ++ B).set (A.length : Int).toNat y = (A ++ y :: M2) ++ y :: B := by
      rw [e0, set_mid A x y _ _ rfl]
      simp
    have s2 : ((A ++ y :: M2) ++ y :: B).set ((A.length : Int) + ((x :: (M2 ++ [y])).length : Int) - 1).toNat x = A ++ [y] ++ M2 ++ (x :: B) := by
      rw [set_mid _ y x B _ (by simp only [List.length_append, List.length_cons, List.length_nil]; omega), e3]
    have er : A ++ (x :: (M2 ++ [y])).reverse ++ B = A ++ [y] ++ M2.reverse ++ (x :: B) := by simp
    rw [er]
    refine Ev.step ?_ ih1
    intro k
    simp only [proof_reverse.l0]
    have hz : (A ++ x :: (M2 ++ [y]) ++ B).length = A.length + (M2.length + 2) + B.length := by simp only [List.length_append, List.length_cons, List.length_nil] <;> omega
    rw [if_pos (by rw [hl]; omega), if_pos (by rw [hl]; omega), if_pos (by rw [hz, hl]; omega), if_pos (by omega), if_pos (by rw [hz]; omega), r1, r2]
    rw [s1, s2]
    have w1 : wrap64 ((A.length : Int) + 1) = ((A ++ [y]).length : Int) := by
      rw [w64 (by omega) (by simp only [List.length_append, List.length_cons, List.length_nil] at hlen; omega)]
      simp
    have w2 : wrap64 ((A.length : Int) + ((x :: (M2 ++ [y])).length : Int) - 1 - 1) = ((A ++ [y]).length : Int) + (M2.length : Int) - 1 := by
      rw [w64 (by rw [hl]; omega) (by rw [hl]; simp only [List.length_append, List.length_cons, List.length_nil] at hlen; omega), hl]
      simp only [List.length_append, List.length_cons, List.length_nil]
      omega
    rw [w1, w2]
theorem revtail_of (A M : List S108) (i : Int) (hi : i = (A.length : Int)) (hlen : A.length + M.length < 1000000) : Ev (fun k => proof_revtail.f k (A ++ M) i) (A ++ M.reverse) := by
  subst hi
  have h := rev_of M.length M [] [] rfl (by simp; omega)
  simp only [List.nil_append, List.append_nil, List.length_nil] at h
  have hr : Ev (fun k => proof_reverse.f k M) M.reverse := by
    refine Ev.congr (fun k => ?_) h
    unfold proof_reverse.f
    rw [w64 (by omega) (by omega)]
    simp
  have hb : Ev (fun k => (proof_reverse.f k M).bind fun r => some (A ++ r)) (A ++ M.reverse) := Ev.bind hr (Ev.now _)
  refine Ev.congr (fun k => ?_) hb
  unfold proof_revtail.f
  rw [if_pos (by omega), if_pos (by rw [List.length_append]; omega), Int.toNat_natCast, List.drop_left, List.take_left]
theorem sibs_of (x2 x9 x10 x11 x12 : Int) (F0 F1 : Int) (r : List S108 × Int × Int × Int × Int) : ∀ (c l i : Nat) (out : List S108), F0 = ((l + c : Nat) : Int) → l + c ≤ 64 → i < 18446744073709551616 → out.length + c < 800 →
    Ev (fun k => proof_nodes.l0 k x2 x9 x10 x11 x12 (out ++ (sibs c l i).map mk108) F0 F1 ((l + c : Nat) : Int) ((i / 2 ^ c : Nat) : Int)) r →
    Ev (fun k => proof_nodes.l0 k x2 x9 x10 x11 x12 out F0 F1 (l : Int) (i : Int)) r
  | 0, l, i, out, _, _, _, _, h => by
    simpa [sibs] using h
  | c + 1, l, i, out, hF, hlc, hi, hout, h => by
    have h1 : Ev (fun k => proof_nodes.l0 k x2 x9 x10 x11 x12 (out ++ [mk108 (l, i ^^^ 1)]) F0 F1 ((l + 1 : Nat) : Int) ((i / 2 : Nat) : Int)) r := by
      refine sibs_of x2 x9 x10 x11 x12 F0 F1 r c (l + 1) (i / 2) (out ++ [mk108 (l, i ^^^ 1)]) (by rw [hF]; omega) (by omega) (by omega) (by rw [List.length_append]; simp; omega) ?_
      rw [show l + 1 + c = l + (c + 1) by omega, Nat.div_div_eq_div_mul, ← Nat.pow_succ', List.append_assoc]
      exact h
    refine Ev.step ?_ h1
    intro k
    simp only [proof_nodes.l0]
    rw [if_pos (by rw [hF]; omega)]
    simp only [compact_NodeID_Sibling.f, compact_NodeID_Parent.f, compact_NewNodeID.f, Option.bind_some]
    rw [if_pos (by simp; omega)]
    have e1 : IntKind.u64.wrap ((l : Int) + 1) = ((l + 1 : Nat) : Int) := by rw [wu64 (by omega) (by omega)]; omega
    have e2 : (i : Int) / 2 = ((i / 2 : Nat) : Int) := by omega
    have e3 : Go.bits .xor .u64 (i : Int) 1 = ((i ^^^ 1 : Nat) : Int) := by
      rw [show (1 : Int) = ((1 : Nat) : Int) from rfl, bits_xor_u64_nat _ _ hi (by omega)]
    rw [e1, e2, e3]
    rfl
structure Path (i l s c : Nat) (Rt Lf : List (Nat × Nat)) : Prop where
  even : i / 2 ^ c % 2 = 0
  top : s / 2 ^ (l + c) = i / 2 ^ c + 1
  lvl : l + c ≤ 63
  right : IsN ((i / 2 ^ c + 1) * 2 ^ (l + c)) s Rt
  left : IsN 0 (i / 2 ^ c * 2 ^ (l + c)) Lf
  rlen : Rt.length ≤ 128
  llen : Lf.length ≤ 128
theorem path_facts {i l s : Nat} (_hl : l ≤ 63) (hs : s < 18446744073709551616) (hi : i < s / 2 ^ l) :
    ∃ c, Lib.bitLen (i ^^^ (s / 2 ^ l)) = c + 1 ∧ i ^^^ (s / 2 ^ l) < 18446744073709551616 ∧ i / 2 ^ c % 2 = 0 ∧ s / 2 ^ (l + c) = i / 2 ^ c + 1 ∧ l + c ≤ 63 := by
  have hN : s / 2 ^ l ≤ s := Nat.div_le_self _ _
  have hz0 : i ^^^ (s / 2 ^ l) ≠ 0 := by
    intro h0
    have h1 : i = s / 2 ^ l := by
      have := congrArg (fun t => i ^^^ t) h0
      simpa [← Nat.xor_assoc] using this.symm
    omega
  have hzl : i ^^^ (s / 2 ^ l) < 2 ^ 64 := Nat.xor_lt_two_pow (by omega) (by omega)
  obtain ⟨k1, k2, k3, k4⟩ := M.len_spec _ hz0 hzl
  obtain ⟨d, hd⟩ : ∃ d, Lib.bitLen (i ^^^ (s / 2 ^ l)) = d + 1 := ⟨Lib.bitLen (i ^^^ (s / 2 ^ l)) - 1, by omega⟩
  rw [hd] at k1 k2 k3 k4
  have hD : 0 < 2 ^ d := Nat.two_pow_pos d
  have hq1 : (i ^^^ (s / 2 ^ l)) / 2 ^ d = 1 := by
    rw [Nat.div_eq_iff hD]
    rw [Nat.pow_succ] at k4
    rw [Nat.add_sub_cancel] at k3
    omega
  have hx : (i / 2 ^ d) ^^^ (s / 2 ^ l / 2 ^ d) = 1 := by
    rw [← Nat.shiftRight_eq_div_pow, ← Nat.shiftRight_eq_div_pow (m := s / 2 ^ l), ← Nat.shiftRight_xor_distrib, Nat.shiftRight_eq_div_pow]
    exact hq1
  have hle : i / 2 ^ d ≤ s / 2 ^ l / 2 ^ d := Nat.div_le_div_right (by omega)
  obtain ⟨hq, hp⟩ := M.xor_one_cases hx hle
  have htop : s / 2 ^ (l + d) = i / 2 ^ d + 1 := by rw [Nat.pow_add, ← Nat.div_div_eq_div_mul]; exact hq
  refine ⟨d, hd, hzl, hp, htop, ?_⟩
  have h1 : 2 ^ (l + d) ≤ s := by
    have h2 : 1 ≤ s / 2 ^ (l + d) := by rw [htop]; exact Nat.le_add_left _ _
    have := (Nat.le_div_iff_mul_le (Nat.two_pow_pos (l + d))).1 h2
    omega
  have : 2 ^ (l + d) < 2 ^ 64 := Nat.lt_of_le_of_lt h1 hs
  have := (Nat.pow_lt_pow_iff_right (a := 2) (by omega)).1 this
  omega
def ids (c l i : Nat) (Rt Lf : List (Nat × Nat)) : List (Nat × Nat) := (l, i) :: (sibs c l i ++ Rt.reverse ++ Lf.reverse)
def answer (c l i q : Nat) (Rt Lf : List (Nat × Nat)) : List S108 × Int × Int × Int × Int :=
  ((ids c l i Rt Lf).map mk108, (if Rt.length = 0 then 0 else ((1 + c : Nat) : Int)), (if Rt.length = 0 then 0 else ((1 + c + Rt.length : Nat) : Int)), ((l + c : Nat) : Int), ((q + 1 : Nat) : Int))
theorem fin_of {s c l i q B E : Nat} {Rt Lf : List (Nat × Nat)} (heven : q % 2 = 0) (hq : q < 18446744073709551615) (hc : c ≤ 63) (hRl : Rt.length ≤ 128) (hLl : Lf.length ≤ 128)
    (hRr : ∀ out : List S108, out.length < 800 → Ev (fun k => compact_RangeNodes.f k (E : Int) (s : Int) out) (out ++ Rt.map mk108))
    (hLr : ∀ out : List S108, out.length < 800 → Ev (fun k => compact_RangeNodes.f k 0 (B : Int) out) (out ++ Lf.map mk108)) :
    Ev (fun k => proof_nodes.l0 k (s : Int) (B : Int) (E : Int) ((Lf.length : Nat) : Int) ((Rt.length : Nat) : Int) ([mk108 (l, i)] ++ (sibs c l i).map mk108) ((l + c : Nat) : Int) (q : Int) ((l + c : Nat) : Int) (q : Int)) (answer c l i q Rt Lf) := by
  have hol : ([mk108 (l, i)] ++ (sibs c l i).map mk108).length = 1 + c := by rw [List.length_append, List.length_map, sibs_length]; rfl
  have hids : (ids c l i Rt Lf).map mk108 = [mk108 (l, i)] ++ (sibs c l i).map mk108 ++ (Rt.map mk108).reverse ++ (Lf.map mk108).reverse := by simp [ids]
  unfold answer
  rw [hids]
  clear hids
  generalize [mk108 (l, i)] ++ (sibs c l i).map mk108 = O at hol ⊢
  have h1 := hRr O (by omega)
  have h2 := revtail_of O (Rt.map mk108) ((1 + c : Nat) : Int) (by rw [hol]) (by rw [hol, List.length_map]; omega)
  have h3 := hLr (O ++ (Rt.map mk108).reverse) (by rw [List.length_append, List.length_reverse, List.length_map]; omega)
  have h4 := revtail_of (O ++ (Rt.map mk108).reverse) (Lf.map mk108) ((1 + c + Rt.length : Nat) : Int) (by rw [List.length_append, List.length_reverse, List.length_map, hol]) (by simp only [List.length_append, List.length_reverse, List.length_map, hol]; omega)
  have e5 : wrap64 ((((O ++ Rt.map mk108).length : Nat) : Int) - ((Rt.length : Nat) : Int)) = ((1 + c : Nat) : Int) := by
    rw [List.length_append, List.length_map, hol, w64 (by omega) (by omega)]; omega
  have e6 : wrap64 ((((O ++ (Rt.map mk108).reverse ++ Lf.map mk108).length : Nat) : Int) - ((Lf.length : Nat) : Int)) = ((1 + c + Rt.length : Nat) : Int) := by
    simp only [List.length_append, List.length_reverse, List.length_map, hol]
    rw [w64 (by omega) (by omega)]; omega
  have hsib : compact_NodeID_Sibling.f ((l + c : Nat) : Int) (q : Int) = some (((l + c : Nat) : Int), ((q + 1 : Nat) : Int)) := by
    simp only [compact_NodeID_Sibling.f, compact_NewNodeID.f, Option.bind_some]
    rw [show (1 : Int) = ((1 : Nat) : Int) from rfl, bits_xor_u64_nat _ _ (by omega) (by omega), xor1_even heven]
  refine Ev.step (f := fun k => (compact_RangeNodes.f k (E : Int) (s : Int) O).bind fun t188 => ((proof_revtail.f k t188 (wrap64 ((t188.length : Int) - ((Rt.length : Nat) : Int)))).bind fun t191 => ((compact_RangeNodes.f k 0 (B : Int) t191).bind fun t192 => ((proof_revtail.f k t192 (wrap64 ((t192.length : Int) - ((Lf.length : Nat) : Int)))).bind fun t195 => (if (O.length : Int) ≥ (t188.length : Int) then ((compact_NodeID_Sibling.f ((l + c : Nat) : Int) (q : Int)).bind fun bt196 => (some (t195, 0, 0, bt196.1, bt196.2))) else ((compact_NodeID_Sibling.f ((l + c : Nat) : Int) (q : Int)).bind fun bt198 => (some (t195, (O.length : Int), (t188.length : Int), bt198.1, bt198.2)))))))) (fun k => ?_) ?_
  · simp only [proof_nodes.l0]
    rw [if_neg (by omega)]
  · refine Ev.bind h1 (Ev.bind (a := O ++ (Rt.map mk108).reverse) ?_ (Ev.bind h3 (Ev.bind (a := O ++ (Rt.map mk108).reverse ++ (Lf.map mk108).reverse) ?_ ?_)))
    · rw [e5]; exact h2
    · rw [e6]; exact h4
    · rw [hsib]
      simp only [Option.bind_some]
      by_cases hz : Rt.length = 0
      · rw [if_pos (by rw [List.length_append, List.length_map]; omega), if_pos hz, if_pos hz]
        exact Ev.now _
      · rw [if_neg (by rw [List.length_append, List.length_map]; omega), if_neg hz, if_neg hz, List.length_append, List.length_map, hol]
        exact Ev.now _
theorem sum_small {l c nR nL : Nat} (h : l + c ≤ 63) (h1 : nR ≤ 128) (h2 : nL ≤ 128) : 1 + c + nR + nL ≤ 500 := by omega
theorem toNat_small (u : Nat) (h : u ≤ 500) : (u : Int).toNat ≤ 17592186044416 := by
  rw [Int.toNat_natCast]
  exact Nat.le_trans h (by decide)
theorem two_small (x : S108) (l : List S108) (h : l.length = 0 := by rfl) : l.length + [x].length < 8796093022208 := by
  rw [h]
  exact (by decide : 0 + 1 < 8796093022208)
theorem head_of {s c l i q B E nR nL : Nat} (hs : s < 18446744073709551616) (hi : i < 18446744073709551616) (hx : i ^^^ (s / 2 ^ l) < 18446744073709551616) (hN : s / 2 ^ l < 18446744073709551616) (hc : Lib.bitLen (i ^^^ (s / 2 ^ l)) = c + 1) (hlc : l + c ≤ 63)
    (hiq : i / 2 ^ c = q) (hq : q < 18446744073709551615) (hB : q * 2 ^ (l + c) = B) (hE : (q + 1) * 2 ^ (l + c) = E) (hB64 : B < 18446744073709551616) (hE64 : E < 18446744073709551616)
    (hR : compact_RangeSize.f (E : Int) (s : Int) = some (nR : Int)) (hL : compact_RangeSize.f 0 (B : Int) = some (nL : Int)) (hnR : nR ≤ 128) (hnL : nL ≤ 128) (k : Nat) :
    proof_nodes.f k (i : Int) (l : Int) (s : Int) = proof_nodes.l0 k (s : Int) (B : Int) (E : Int) (nL : Int) (nR : Int) [mk108 (l, i)] ((l + c : Nat) : Int) (q : Int) (l : Int) (i : Int) := by
  unfold proof_nodes.f
  rw [if_pos (by omega)]
  have hsh : shr .u64 (s : Int) (l : Int) = ((s / 2 ^ l : Nat) : Int) := shr_u64 s l rfl rfl hs
  rw [hsh, bits_xor_u64_nat _ _ hi hN]
  have hlen : bits_Len64.f (((i ^^^ (s / 2 ^ l) : Nat)) : Int) = some ((c + 1 : Nat) : Int) := by
    unfold bits_Len64.f
    rw [if_pos (by omega), if_pos (by omega), Int.toNat_natCast, hc]
  rw [hlen, Option.bind_some]
  have e1 : wrap64 (((c + 1 : Nat) : Int) - 1) = (c : Int) := by rw [w64 (by omega) (by omega)]; omega
  have e2 : IntKind.u64.wrap ((l : Int) + IntKind.u64.wrap (c : Int)) = ((l + c : Nat) : Int) := by rw [wu64 (n := (c : Int)) (by omega) (by omega), wu64 (by omega) (by omega)]; omega
  have e3 : shr .u64 (i : Int) (c : Int) = (q : Int) := by rw [← hiq]; exact shr_u64 i c rfl rfl hi
  rw [e1, if_pos (by omega), e2, e3]
  rw [show compact_NewNodeID.f ((l + c : Nat) : Int) (q : Int) = some (((l + c : Nat) : Int), (q : Int)) from rfl, Option.bind_some]
  dsimp only
  unfold compact_NodeID_Coverage.f
  rw [if_pos (by omega)]
  have e4 : IntKind.u64.wrap ((q : Int) + 1) = ((q + 1 : Nat) : Int) := by rw [wu64 (by omega) (by omega)]; omega
  have e5 : shl .u64 (q : Int) ((l + c : Nat) : Int) = (B : Int) := by rw [← hB]; exact shl_u64 _ (l + c) rfl rfl (by rw [hB]; exact hB64) (by omega)
  have e6 : shl .u64 ((q + 1 : Nat) : Int) ((l + c : Nat) : Int) = (E : Int) := by rw [← hE]; exact shl_u64 _ (l + c) rfl rfl (by rw [hE]; exact hE64) (by omega)
  rw [e4, e5, e6, Option.bind_some]
  dsimp only
  rw [hL, Option.bind_some, hR, Option.bind_some]
  rw [show compact_NewNodeID.f (l : Int) (i : Int) = some ((l : Int), (i : Int)) from rfl, Option.bind_some]
  dsimp only
  have e7 : wrap64 ((wrap64 ((wrap64 (1 + (c : Int))) + (nR : Int))) + (nL : Int)) = ((1 + c + nR + nL : Nat) : Int) := by
    rw [w64 (n := 1 + (c : Int)) (by omega) (by omega), w64 (n := 1 + (c : Int) + _) (by omega) (by omega), w64 (by omega) (by omega)]; omega
  rw [e7]
  have hu : 1 + c + nR + nL ≤ 500 := sum_small hlc hnR hnL
  generalize 1 + c + nR + nL = u at hu
  have hu1 : (0 : Int) ≤ (u : Int) := Int.natCast_nonneg u
  rw [if_pos hu1, if_pos (toNat_small u hu), Option.bind_some, Option.bind_some, if_pos (two_small _ [])]
  rfl
theorem nodes_path {i l s : Nat} (hl : l ≤ 63) (hs : s < 18446744073709551616) (hi : i < s / 2 ^ l) : ∃ c Rt Lf, Path i l s c Rt Lf ∧ Lib.bitLen (i ^^^ (s / 2 ^ l)) = c + 1 ∧
    Ev (fun k => proof_nodes.f k (i : Int) (l : Int) (s : Int)) (answer c l i (i / 2 ^ c) Rt Lf) := by
  obtain ⟨c, hc, hx, heven, htop, hlvl⟩ := path_facts hl hs hi
  have hN : s / 2 ^ l ≤ s := Nat.div_le_self _ _
  have hP : 0 < 2 ^ (l + c) := Nat.two_pow_pos _
  have hend : (i / 2 ^ c + 1) * 2 ^ (l + c) ≤ s := by
    rw [← htop]
    exact Nat.div_mul_le_self _ _
  have hbeg : i / 2 ^ c * 2 ^ (l + c) ≤ s := Nat.le_trans (Nat.mul_le_mul_right _ (by omega)) hend
  obtain ⟨Rt, hRt, hRl, hRs, hRr⟩ := range_of _ s hend hs
  obtain ⟨Lf, hLf, hLl, hLs, hLr⟩ := range_of 0 (i / 2 ^ c * 2 ^ (l + c)) (Nat.zero_le _) (Nat.lt_of_le_of_lt hbeg hs)
  have hic : i / 2 ^ c ≤ i := Nat.div_le_self _ _
  have hq : i / 2 ^ c < 18446744073709551615 := Nat.lt_of_le_of_lt hic (by omega)
  refine ⟨c, Rt, Lf, ⟨heven, htop, hlvl, hRt, hLf, hRl, hLl⟩, hc, ?_⟩
  have hfin := fin_of (c := c) (l := l) (i := i) heven hq (by omega) hRl hLl hRr hLr
  have hloop := sibs_of (s : Int) ((i / 2 ^ c * 2 ^ (l + c) : Nat) : Int) (((i / 2 ^ c + 1) * 2 ^ (l + c) : Nat) : Int) ((Lf.length : Nat) : Int) ((Rt.length : Nat) : Int) ((l + c : Nat) : Int) ((i / 2 ^ c : Nat) : Int) _ c l i [mk108 (l, i)] rfl (by omega) (by omega) (by simp; omega) hfin
  exact Ev.congr (fun k => head_of hs (by omega) hx (Nat.lt_of_le_of_lt hN hs) hc hlvl rfl hq rfl rfl (Nat.lt_of_le_of_lt hbeg hs) (Nat.lt_of_le_of_lt hend hs) hRs hLs hRl hLl k) hloop
end Go.Proofs.YtfhcpniibiobgaaDoor.Pure
namespace Go.Proofs.YtfhcpniibiobgaaDoor.Pure
open Go.RowKit Go.Proofs.YtfhcpniibiobgaaDoor.Qf Go.Proofs.YtfhcpniibiobgaaDoorW.PrintWords Go.Proofs.YtfhcpniibiobgaaDoorW.PrintLast
open Go.Proofs.YtfhcpniibiobgaaDoor.M (IsN sibs sibs_length)
theorem fromNodes_ev (l : List (Nat × Nat)) (h : l.length < 1000) : Ev (fun k => impl_fromNodes.f k (l.map mk108)) (l.map mk52) := by
  obtain ⟨k, hk⟩ := fromNodes_all l h
  exact Ev.of (fun _ => impl_fromNodes.mono _ _) hk
theorem fromProof_ev (l : List (Nat × Nat)) (h : l.length < 1000) (b e v x : Int) : Ev (fun k => impl_fromProof.f k (l.map mk108) b e v x) (l.map mk52, v, x, b, e) := by
  refine Ev.congr (fun k => ?_) (Ev.bind (fromNodes_ev l h) (f := fun _ t => some (t, v, x, b, e)) (Ev.now _))
  unfold impl_fromProof.f
  rw [show proof_Nodes_Ephem.f (l.map mk108) b e v x = some (v, x, b, e) from rfl, Option.bind_some]
  congr 1
theorem ids_length (c l i : Nat) (Rt Lf : List (Nat × Nat)) : (ids c l i Rt Lf).length = 1 + c + Rt.length + Lf.length := by
  unfold ids
  simp [sibs_length]
  omega
theorem skip_of (c l i : Nat) (Rt Lf : List (Nat × Nat)) (v u : Int) (hc : c ≤ 63) (hR : Rt.length ≤ 128) :
    proof_Nodes_skipFirst.f ((ids c l i Rt Lf).map mk108) (if Rt.length = 0 then 0 else ((1 + c : Nat) : Int)) (if Rt.length = 0 then 0 else ((1 + c + Rt.length : Nat) : Int)) v u =
      some ((sibs c l i ++ Rt.reverse ++ Lf.reverse).map mk108, (if Rt.length = 0 then 0 else (c : Int)), (if Rt.length = 0 then 0 else ((c + Rt.length : Nat) : Int)), v, u) := by
  unfold proof_Nodes_skipFirst.f
  have hd : ((ids c l i Rt Lf).map mk108).drop (1 : Int).toNat = (sibs c l i ++ Rt.reverse ++ Lf.reverse).map mk108 := rfl
  rw [if_pos (by rw [List.length_map, ids_length]; omega), hd, Option.bind_some]
  by_cases hz : Rt.length = 0
  · rw [if_pos hz, if_pos hz, if_neg (by omega), if_pos hz, if_pos hz]
  · rw [if_neg hz, if_neg hz, if_pos (by omega), if_neg hz, if_neg hz, w64 (by omega) (by omega), w64 (by omega) (by omega)]
    rw [show ((1 + c : Nat) : Int) - 1 = (c : Int) by omega, show ((1 + c + Rt.length : Nat) : Int) - 1 = ((c + Rt.length : Nat) : Int) by omega]
end Go.Proofs.YtfhcpniibiobgaaDoor.Pure
