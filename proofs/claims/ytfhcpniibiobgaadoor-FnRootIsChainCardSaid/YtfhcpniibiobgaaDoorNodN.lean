/- The reference's list of a range's nodes is that of the two parts. Conditions: begin not after end. -/
import Derived.Test.YtfhcpniibiobgaaDoorL
import Derived.Test.YtfhcpniibiobgaaDoorDecN
import Derived.Test.YtfhcpniibiobgaaDoorQfx1
namespace Go.Proofs.YtfhcpniibiobgaaDoor.Pure
open Go.RowKit Go.Proofs.YtfhcpniibiobgaaDoor.Qf Go.Proofs.YtfhcpniibiobgaaDoorW.PrintWords Go.Proofs.YtfhcpniibiobgaaDoorW.PrintLast
open Go.Proofs.YtfhcpniibiobgaaDoor.M (leftN rightN nodesN lstep rstep rightN_fuel leftN_len rightN_len)

/-- A node as the program has it. -/
def mkS (x : Nat × Nat) : S52 := ⟨(x.1 : Int), (x.2 : Int)⟩

theorem pow_lt64 {c : Nat} (h : c ≤ 63) : 2 ^ c < 18446744073709551616 := by
  have : 2 ^ c ≤ 2 ^ 63 := Nat.pow_le_pow_right (by omega) h
  omega

/-- The search for the level comes to c. -/
theorem level_of (k : Nat) (out : List S52) (p e c : Nat) (he : e < 18446744073709551616) (hc : c ≤ 63) (hp : p < e)
    (hev : p % 2 ^ c = 0) (hle : 2 ^ c ≤ e - p) (hstop : c = 63 ∨ p / 2 ^ c % 2 = 1 ∨ e - p < 2 ^ (c + 1)) (hl : out.length < 8796093022208) :
    ∀ i j : Nat, j + i = c → spec_Nodes.l1 (k + i + 1) out (j : Int) (p : Int) (e : Int) = spec_Nodes.l0 k (out ++ [mkS (c, p / 2 ^ c)]) ((p + 2 ^ c : Nat) : Int) (e : Int) := by
  intro i
  have hpc := pow_lt64 hc
  have hshr : ∀ j : Nat, shr .u64 (p : Int) (j : Int) = ((p / 2 ^ j : Nat) : Int) := fun j => shr_u64 p j rfl rfl (by omega)
  have hbit : ∀ j : Nat, Go.bits .and .u64 ((p / 2 ^ j : Nat) : Int) 1 = ((p / 2 ^ j % 2 : Nat) : Int) := by
    intro j
    have h1 : p / 2 ^ j ≤ p := Nat.div_le_self _ _
    rw [show (1 : Int) = ((1 : Nat) : Int) from rfl, bits_and_u64_nat _ _ (by omega) (by omega), Nat.and_one_is_mod]
  have happ : (if out.length < 8796093022208 then (spec_Nodes.l0 k (out ++ [(⟨(c : Int), shr .u64 (p : Int) (c : Int)⟩ : S52)]) (IntKind.u64.wrap ((p : Int) + (shl .u64 1 (c : Int)))) (e : Int)) else none) =
      spec_Nodes.l0 k (out ++ [mkS (c, p / 2 ^ c)]) ((p + 2 ^ c : Nat) : Int) (e : Int) := by
    rw [if_pos hl, hshr, shl_u64 (x := 1) (y := (c : Int)) 1 c rfl rfl (by omega) (by omega), Nat.one_mul, wu64 (by omega) (by omega)]
    have : (p : Int) + ((2 ^ c : Nat) : Int) = ((p + 2 ^ c : Nat) : Int) := by push_cast; rfl
    rw [this]
    rfl
  induction i with
  | zero =>
    intro j hj
    obtain rfl : j = c := by omega
    simp only [spec_Nodes.l1]
    by_cases h63 : (j : Int) < 63
    · rw [if_pos h63, if_pos (by omega), hshr, hbit]
      by_cases hb : ((p / 2 ^ j % 2 : Nat) : Int) = 0
      · rw [if_pos hb]
        have e1 : IntKind.u64.wrap ((j : Int) + 1) = ((j + 1 : Nat) : Int) := by rw [wu64 (by omega) (by omega)]; omega
        have hlt : e - p < 2 ^ (j + 1) := by rcases hstop with h | h | h <;> omega
        have hpj := pow_lt64 (show j + 1 ≤ 63 by omega)
        rw [e1, if_pos (by omega), shl_u64 (x := 1) (y := ((j + 1 : Nat) : Int)) 1 (j + 1) rfl rfl (by omega) (by omega), Nat.one_mul, if_neg (by rw [wu64 (by omega) (by omega)]; omega)]
        have happ' := happ
        rw [hshr] at happ'
        exact happ'
      · rw [if_neg hb]
        have happ' := happ
        rw [hshr] at happ'
        exact happ'
    · rw [if_neg h63, if_pos (by omega)]
      exact happ
  | succ i ih =>
    intro j hj
    have hjc : j < c := by omega
    rw [show k + (i + 1) + 1 = (k + i + 1) + 1 by omega]
    have hih := ih (j + 1) (by omega)
    generalize k + i + 1 = kk at *
    simp only [spec_Nodes.l1]
    rw [if_pos (by omega), if_pos (by omega), hshr, hbit]
    have h0 : p / 2 ^ j % 2 = 0 := by
      obtain ⟨u, hu⟩ := Nat.dvd_of_mod_eq_zero hev
      obtain ⟨g, rfl⟩ : ∃ g, c = j + 1 + g := ⟨c - j - 1, by omega⟩
      rw [hu, Nat.pow_add, Nat.pow_succ, Nat.mul_assoc, Nat.mul_assoc, Nat.mul_div_cancel_left _ (Nat.two_pow_pos j)]
      omega
    rw [h0, if_pos (show ((0 : Nat) : Int) = 0 from rfl)]
    have e1 : IntKind.u64.wrap ((j : Int) + 1) = ((j + 1 : Nat) : Int) := by rw [wu64 (by omega) (by omega)]; omega
    have hpj := pow_lt64 (show j + 1 ≤ 63 by omega)
    have hple : 2 ^ (j + 1) ≤ 2 ^ c := Nat.pow_le_pow_right (by omega) (by omega)
    rw [e1, if_pos (by omega), shl_u64 (x := 1) (y := ((j + 1 : Nat) : Int)) 1 (j + 1) rfl rfl (by omega) (by omega), Nat.one_mul, if_pos (by rw [wu64 (by omega) (by omega)]; omega)]
    exact hih

theorem step_of (k : Nat) (out : List S52) (p e c : Nat) (he : e < 18446744073709551616) (hc : c ≤ 63) (hp : p < e)
    (hev : p % 2 ^ c = 0) (hle : 2 ^ c ≤ e - p) (hstop : c = 63 ∨ p / 2 ^ c % 2 = 1 ∨ e - p < 2 ^ (c + 1)) (hl : out.length < 8796093022208) :
    spec_Nodes.l0 (k + c + 2) out (p : Int) (e : Int) = spec_Nodes.l0 k (out ++ [mkS (c, p / 2 ^ c)]) ((p + 2 ^ c : Nat) : Int) (e : Int) := by
  rw [show k + c + 2 = (k + c + 1) + 1 by omega]
  simp only [spec_Nodes.l0]
  rw [if_pos (by omega)]
  exact level_of k out p e c he hc hp hev hle hstop hl c 0 (by omega)

/-- The part ahead of M. -/
theorem left_of (M d e : Nat) (he : e < 18446744073709551616) (hd : d ≤ 64) (hM : 2 ^ d ∣ M) (hMe : M ≤ e) (f : Nat) :
    ∀ (L : Nat) (out : List S52) (r : List S52), f ≤ 64 → L < 2 ^ d → L ≤ M → 2 ^ (64 - f) ∣ L → out.length + f < 1000 →
      (∃ k, spec_Nodes.l0 k (out ++ (leftN f M L).map mkS) (M : Int) (e : Int) = some r) → ∃ k, spec_Nodes.l0 k out ((M - L : Nat) : Int) (e : Int) = some r := by
  induction f with
  | zero =>
    intro L out r _ hL _ hdv _ h
    have h0 : L = 0 := by
      obtain ⟨u, hu⟩ := hdv
      have : 2 ^ d ≤ 2 ^ 64 := Nat.pow_le_pow_right (by omega) hd
      have hu0 : u = 0 := by
        rcases Nat.eq_zero_or_pos u with h | h
        · exact h
        · exfalso
          have : 2 ^ 64 * 1 ≤ 2 ^ 64 * u := Nat.mul_le_mul_left _ h
          omega
      rw [hu, hu0, Nat.mul_zero]
    subst h0
    simpa [leftN] using h
  | succ f ih =>
    intro L out r hf hL hLM hdv hout h
    by_cases h0 : L = 0
    · subst h0
      simpa [leftN] using h
    have hs := lstep f d M L hf h0 hL hd hM hLM hdv
    unfold leftN at h
    rw [if_neg h0] at h
    generalize Lib.ctz 64 L = c at *
    obtain ⟨c63, cd, fc, le, dvd, ⟨m, odd⟩, low⟩ := hs
    rw [List.map_cons, List.append_cons] at h
    have hsub : M - (L - 2 ^ c) = M - L + 2 ^ c := by omega
    have hlt : L - 2 ^ c < 2 ^ d := by omega
    obtain ⟨k, hk⟩ := ih (L - 2 ^ c) (out ++ [mkS (c, (M - L) / 2 ^ c)]) r (by omega) hlt (by omega) (Nat.dvd_trans (Nat.pow_dvd_pow 2 (by omega)) dvd) (by rw [List.length_append, List.length_singleton]; omega) h
    rw [hsub] at hk
    refine ⟨k + c + 2, ?_⟩
    rw [step_of k out (M - L) e c he c63 (by omega) ?_ (by omega) (.inr (.inl ?_)) (by omega)]
    · exact hk
    · rw [odd]; exact Nat.mul_mod_right _ _
    · rw [odd, Nat.mul_div_cancel_left _ (Nat.two_pow_pos c)]; omega

/-- The part behind. -/
theorem right_of (e : Nat) (he : e < 18446744073709551616) (f : Nat) :
    ∀ (R : Nat) (out : List S52), f ≤ 64 → R < 2 ^ f → R ≤ e → 2 ^ f ∣ e - R → out.length + f < 1000 →
      ∃ k, spec_Nodes.l0 k out ((e - R : Nat) : Int) (e : Int) = some (out ++ (rightN f e R).map mkS) := by
  induction f using Nat.strongRecOn with
  | _ f ih =>
  intro R out hf hR hRe hdv hout
  by_cases h0 : R = 0
  · subst h0
    refine ⟨1, ?_⟩
    have : rightN f e 0 = [] := by cases f <;> simp [rightN]
    rw [this]
    simp [spec_Nodes.l0]
  obtain ⟨f, rfl⟩ : ∃ g, f = g + 1 := by
    refine ⟨f - 1, ?_⟩
    rcases Nat.eq_zero_or_pos f with h | h
    · subst h; simp at hR; omega
    · omega
  have hs := rstep f e R hf h0 hR hRe hdv
  have hun : rightN (f + 1) e R = (Lib.bitLen R - 1, (e - R) / 2 ^ (Lib.bitLen R - 1)) :: rightN f e (R - 2 ^ (Lib.bitLen R - 1)) := by
    rw [rightN, if_neg h0]
  rw [hun]
  generalize Lib.bitLen R - 1 = c at *
  obtain ⟨c63, cf, le, lt, rest, ⟨m, even⟩, dvd⟩ := hs
  have hsub : e - (R - 2 ^ c) = e - R + 2 ^ c := by omega
  have hfuel : rightN f e (R - 2 ^ c) = rightN c e (R - 2 ^ c) := rightN_fuel c f e _ cf (by omega) rest
  obtain ⟨k, hk⟩ := ih c (by omega) (R - 2 ^ c) (out ++ [mkS (c, (e - R) / 2 ^ c)]) (by omega) rest (by omega) dvd (by rw [List.length_append, List.length_singleton]; omega)
  rw [hsub] at hk
  refine ⟨k + c + 2, ?_⟩
  rw [step_of k out (e - R) e c he c63 (by omega) ?_ (by omega) (.inr (.inr (by omega))) (by omega), hk, List.append_assoc, hfuel]
  · rfl
  · rw [even]; exact Nat.mul_mod_right _ _

/-- All nodes of the range from b to e. -/
theorem nodes_of {b e L R M d : Nat} (hm : Mid b e L R M d) (he : e < 18446744073709551616) : ∃ k, spec_Nodes.f k (b : Int) (e : Int) = some ((nodesN M e L R).map mkS) := by
  obtain ⟨lo, hi, d64, dvd, l, r, _, _⟩ := hm
  have hr := right_of e he d R ((leftN 64 M L).map mkS) (by omega) r (by omega) (by rw [show e - R = M by omega]; exact dvd) (by
    have := leftN_len 64 M L
    rw [List.length_map]; omega)
  rw [show e - R = M by omega, ← rightN_fuel d 64 e R (by omega) (by omega) r] at hr
  have hl := left_of M d e he (by omega) dvd (by omega) 64 L [] _ (by omega) l (by omega) (by simp) (by simp) (by simpa using hr)
  obtain ⟨k, hk⟩ := hl
  rw [show M - L = b by omega] at hk
  refine ⟨k, ?_⟩
  unfold spec_Nodes.f
  rw [hk, nodesN, List.map_append]

end Go.Proofs.YtfhcpniibiobgaaDoor.Pure
