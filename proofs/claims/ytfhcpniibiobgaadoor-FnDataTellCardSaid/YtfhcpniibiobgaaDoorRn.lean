/- The nodes of a range, as the program lists them. -/
import Derived.Test.YtfhcpniibiobgaaDoorL
import Derived.Test.YtfhcpniibiobgaaDoorDecN
import Derived.Test.YtfhcpniibiobgaaDoorQfx1
namespace Go.Proofs.YtfhcpniibiobgaaDoor.Pure
open Go.RowKit Go.Proofs.YtfhcpniibiobgaaDoor.Qf Go.Proofs.YtfhcpniibiobgaaDoorW.PrintWords Go.Proofs.YtfhcpniibiobgaaDoorW.PrintLast
open Go.Proofs.YtfhcpniibiobgaaDoor.M (leftN rightN nodesN lstep rstep rightN_fuel leftN_len rightN_len)

theorem pow_lt64 {c : Nat} (h : c ≤ 63) : 2 ^ c < 18446744073709551616 := by
  have : 2 ^ c ≤ 2 ^ 63 := Nat.pow_le_pow_right (by omega) h
  omega
def mk108 (x : Nat × Nat) : S108 := ⟨(x.1 : Int), (x.2 : Int)⟩
theorem xor_pow {L c : Nat} (a : Nat) (ha : a.testBit c = false) (hL : a ||| 2 ^ c = L) : L ^^^ 2 ^ c = a := by
  subst hL
  apply Nat.eq_of_testBit_eq
  intro i
  rw [Nat.testBit_xor, Nat.testBit_or, Nat.testBit_two_pow]
  by_cases hi : c = i
  · subst hi; simp [ha]
  · simp [hi]
theorem or_pow {a c : Nat} (h : a < 2 ^ c) : a ||| 2 ^ c = a + 2 ^ c := by
  rw [Nat.or_comm, Nat.add_comm]
  have := Nat.two_pow_add_eq_or_of_lt h 1
  rw [Nat.mul_one] at this
  exact this.symm
theorem or_pow' {a c : Nat} (h : 2 ^ (c + 1) ∣ a) : a ||| 2 ^ c = a + 2 ^ c := by
  obtain ⟨u, rfl⟩ := h
  exact (Nat.two_pow_add_eq_or_of_lt (Nat.pow_lt_pow_right (by omega) (by omega)) u).symm

theorem xor_low {L c : Nat} (hle : 2 ^ c ≤ L) (h : 2 ^ (c + 1) ∣ L - 2 ^ c) : L ^^^ 2 ^ c = L - 2 ^ c := by
  refine xor_pow (L - 2 ^ c) ?_ (by rw [or_pow' h]; omega)
  obtain ⟨u, hu⟩ := h
  rw [hu, Nat.testBit_two_pow_mul]
  simp
  omega
theorem xor_top {R c : Nat} (hle : 2 ^ c ≤ R) (h : R - 2 ^ c < 2 ^ c) : R ^^^ 2 ^ c = R - 2 ^ c :=
  xor_pow (R - 2 ^ c) (Nat.testBit_lt_two_pow h) (by rw [or_pow h]; omega)

/-- The part behind, as the program makes it. -/
theorem right_run (e : Nat) (he : e < 18446744073709551616) (f : Nat) : ∀ (R : Nat) (out : List S108), f ≤ 64 → R < 2 ^ f → R ≤ e → 2 ^ f ∣ e - R → out.length + f < 1000 →
    ∃ k, compact_RangeNodes.l1 k out (R : Int) ((e - R : Nat) : Int) = some (out ++ (rightN f e R).map mk108) := by
  induction f using Nat.strongRecOn with
  | _ f ih =>
  intro R out hf hR hRe hdv hout
  by_cases h0 : R = 0
  · subst h0
    have : rightN f e 0 = [] := by cases f <;> simp [rightN]
    rw [this]
    exact ⟨1, by simp [compact_RangeNodes.l1]⟩
  obtain ⟨f, rfl⟩ : ∃ g, f = g + 1 := by
    refine ⟨f - 1, ?_⟩
    rcases Nat.eq_zero_or_pos f with h | h
    · subst h; simp at hR; omega
    · omega
  have hs := rstep f e R hf h0 hR hRe hdv
  have hun : rightN (f + 1) e R = (Lib.bitLen R - 1, (e - R) / 2 ^ (Lib.bitLen R - 1)) :: rightN f e (R - 2 ^ (Lib.bitLen R - 1)) := by
    rw [rightN, if_neg h0]
  have hR64 : R < 2 ^ 64 := Nat.lt_of_lt_of_le hR (Nat.pow_le_pow_right (by omega) hf)
  obtain ⟨b1, b2, _, _⟩ := M.len_spec R h0 hR64
  have hlen : bits_Len64.f (R : Int) = some ((Lib.bitLen R - 1 + 1 : Nat) : Int) := by
    unfold bits_Len64.f
    rw [if_pos (by omega), if_pos (by omega), Int.toNat_natCast]
    congr 2; omega
  rw [hun]
  generalize Lib.bitLen R - 1 = c at *
  obtain ⟨c63, cf, le, lt, rest, ⟨m, even⟩, dvd⟩ := hs
  have hsub : e - (R - 2 ^ c) = e - R + 2 ^ c := by omega
  have hfuel : rightN f e (R - 2 ^ c) = rightN c e (R - 2 ^ c) := rightN_fuel c f e _ cf (by omega) rest
  obtain ⟨k, hk⟩ := ih c (by omega) (R - 2 ^ c) (out ++ [mk108 (c, (e - R) / 2 ^ c)]) (by omega) rest (by omega) dvd (by rw [List.length_append, List.length_singleton]; omega)
  rw [hsub] at hk
  have hpc := pow_lt64 c63
  refine ⟨k + 1, ?_⟩
  simp only [compact_RangeNodes.l1]
  have e1 : IntKind.u64.wrap ((IntKind.u64.wrap ((c + 1 : Nat) : Int)) - 1) = (c : Int) := by rw [wu64 (n := ((c + 1 : Nat) : Int)) (by omega) (by omega), wu64 (by omega) (by omega)]; omega
  rw [if_neg (by omega), hlen]
  simp only [Option.bind_some, e1, compact_NewNodeID.f]
  rw [if_pos (by omega), if_pos (by omega), shr_u64 (e - R) c rfl rfl (by omega), shl_u64 (x := 1) (y := (c : Int)) 1 c rfl rfl (by omega) (by omega), Nat.one_mul, bits_xor_u64_nat _ _ (by omega) hpc, xor_top le rest, wu64 (by omega) (by omega)]
  rw [show ((e - R : Nat) : Int) + ((2 ^ c : Nat) : Int) = ((e - R + 2 ^ c : Nat) : Int) by push_cast; rfl, hfuel]
  have : out ++ ((c, (e - R) / 2 ^ c) :: rightN c e (R - 2 ^ c)).map mk108 = out ++ [mk108 (c, (e - R) / 2 ^ c)] ++ (rightN c e (R - 2 ^ c)).map mk108 := by simp
  rw [this]
  exact hk

/-- The part ahead. -/
theorem left_run (M d e R : Nat) (he : e < 18446744073709551616) (hd : d ≤ 64) (hM : 2 ^ d ∣ M) (hMe : M ≤ e) (f : Nat) :
    ∀ (L : Nat) (out : List S108) (r : List S108), f ≤ 64 → L < 2 ^ d → L ≤ M → 2 ^ (64 - f) ∣ L → out.length + f < 1000 →
      (∃ k, compact_RangeNodes.l1 k (out ++ (leftN f M L).map mk108) (R : Int) (M : Int) = some r) → ∃ k, compact_RangeNodes.l0 k out (L : Int) (R : Int) ((M - L : Nat) : Int) = some r := by
  induction f with
  | zero =>
    intro L out r _ hL _ hdv _ h
    have h0 : L = 0 := Nat.eq_zero_of_dvd_of_lt hdv (Nat.lt_of_lt_of_le hL (Nat.pow_le_pow_right (by omega) hd))
    subst h0
    obtain ⟨k, hk⟩ := h
    exact ⟨k + 1, by simpa [leftN, compact_RangeNodes.l0] using hk⟩
  | succ f ih =>
    intro L out r hf hL hLM hdv hout h
    by_cases h0 : L = 0
    · subst h0
      obtain ⟨k, hk⟩ := h
      exact ⟨k + 1, by simpa [leftN, compact_RangeNodes.l0] using hk⟩
    have hs := lstep f d M L hf h0 hL hd hM hLM hdv
    have hctz : bits_TrailingZeros64.f (L : Int) = some ((Lib.ctz 64 L : Nat) : Int) := by
      have hL64 : L < 2 ^ 64 := Nat.lt_of_lt_of_le hL (Nat.pow_le_pow_right (by omega) hd)
      unfold bits_TrailingZeros64.f
      rw [if_pos (by omega), if_pos (by omega), Int.toNat_natCast]
    unfold leftN at h
    rw [if_neg h0] at h
    generalize Lib.ctz 64 L = c at *
    obtain ⟨c63, cd, fc, le, dvd, ⟨m, odd⟩, low⟩ := hs
    rw [List.map_cons, List.append_cons] at h
    have hsub : M - (L - 2 ^ c) = M - L + 2 ^ c := by omega
    have hlt : L - 2 ^ c < 2 ^ d := by omega
    obtain ⟨k, hk⟩ := ih (L - 2 ^ c) (out ++ [mk108 (c, (M - L) / 2 ^ c)]) r (by omega) hlt (by omega) (Nat.dvd_trans (Nat.pow_dvd_pow 2 (by omega)) dvd) (by rw [List.length_append, List.length_singleton]; omega) h
    rw [hsub] at hk
    have hpc := pow_lt64 c63
    refine ⟨k + 1, ?_⟩
    simp only [compact_RangeNodes.l0]
    have e1 : IntKind.u64.wrap (c : Int) = (c : Int) := wu64 (by omega) (by omega)
    rw [if_neg (by omega), hctz]
    simp only [Option.bind_some, e1, compact_NewNodeID.f]
    rw [if_pos (by omega), if_pos (by omega), shr_u64 (M - L) c rfl rfl (by omega), shl_u64 (x := 1) (y := (c : Int)) 1 c rfl rfl (by omega) (by omega), Nat.one_mul, bits_xor_u64_nat _ _ (by omega) hpc, xor_low le dvd, wu64 (by omega) (by omega)]
    rw [show ((M - L : Nat) : Int) + ((2 ^ c : Nat) : Int) = ((M - L + 2 ^ c : Nat) : Int) by push_cast; rfl]
    exact hk

theorem rangeNodes_of {b e L R M d : Nat} (hf : compact_Decompose.f (b : Int) (e : Int) = some ((L : Int), (R : Int))) (hm : Mid b e L R M d) (he : e < 18446744073709551616) (out : List S108) (ho : out.length < 800) :
    ∃ k, compact_RangeNodes.f k (b : Int) (e : Int) out = some (out ++ (nodesN M e L R).map mk108) := by
  obtain ⟨lo, hi, d64, dvd, l, r, _, _⟩ := hm
  have hl := leftN_len 64 M L
  have hr := right_run e he d R (out ++ (leftN 64 M L).map mk108) (by omega) r (by omega) (by rw [show e - R = M by omega]; exact dvd) (by
    rw [List.length_append, List.length_map]; omega)
  rw [show e - R = M by omega, ← rightN_fuel d 64 e R (by omega) (by omega) r] at hr
  obtain ⟨k, hk⟩ := left_run M d e R he (by omega) dvd (by omega) 64 L out _ (by omega) l (by omega) (by simp) (by omega) hr
  rw [show M - L = b by omega] at hk
  refine ⟨k, ?_⟩
  unfold compact_RangeNodes.f
  rw [hf]
  simp only [Option.bind_some]
  rw [hk, nodesN, List.map_append, List.append_assoc]
end Go.Proofs.YtfhcpniibiobgaaDoor.Pure
