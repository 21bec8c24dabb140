/- The two masks of a range are the sizes of its nodes that are right children, and of those that are left children. Conditions: none (begin behind end is let by, as the statement says). -/
import Derived.Test.YtmcelgfekffinaaNod
import Derived.Test.YtmcelgfekffinaaQx1
namespace Go.Proofs.Ytmcelgfekffinaa.Pure
open Go.RowKit Go.Proofs.Ytmcelgfekffinaa.Q Go.Proofs.YtmcelgfekffinaaW.PrintWords Go.Proofs.YtmcelgfekffinaaW.PrintLast
open Go.Proofs.Ytmcelgfekffinaa.M (leftN rightN nodesN lstep rstep rightN_fuel leftN_len rightN_len)

theorem or_pow {a c : Nat} (h : a < 2 ^ c) : a ||| 2 ^ c = a + 2 ^ c := by
  rw [Nat.or_comm, Nat.add_comm]
  have := Nat.two_pow_add_eq_or_of_lt h 1
  rw [Nat.mul_one] at this
  exact this.symm
theorem or_pow' {a c : Nat} (h : 2 ^ (c + 1) ∣ a) : a ||| 2 ^ c = a + 2 ^ c := by
  obtain ⟨u, rfl⟩ := h
  exact (Nat.two_pow_add_eq_or_of_lt (Nat.pow_lt_pow_right (by omega) (by omega)) u).symm

theorem rd_mk (pre : List (Nat × Nat)) (x : Nat × Nat) (post : List (Nat × Nat)) : rd_T33 ((pre ++ x :: post).map mkS) (pre.length : Int) = mkS x := by
  unfold rd_T33
  rw [Int.toNat_natCast, List.getD_eq_getElem?_getD, List.getElem?_map, List.getElem?_append_right (Nat.le_refl _), Nat.sub_self]
  rfl

/-- One round. -/
theorem round_of (k : Nat) (a r : Nat) (pre post : List (Nat × Nat)) (c i : Nat) (hc : c ≤ 63) (ha : a < 18446744073709551616) (hr : r < 18446744073709551616) (hlen : (pre ++ (c, i) :: post).length < 1000) :
    spec_Decomposed.l0 (k + 1) (a : Int) (r : Int) ((pre ++ (c, i) :: post).map mkS) (((pre ++ (c, i) :: post).map mkS).length : Int) (pre.length : Int) =
      spec_Decomposed.l0 k ((if i % 2 = 1 then a ||| 2 ^ c else a : Nat) : Int) ((if i % 2 = 1 then r else r ||| 2 ^ c : Nat) : Int) ((pre ++ (c, i) :: post).map mkS) (((pre ++ (c, i) :: post).map mkS).length : Int) ((pre ++ [(c, i)]).length : Int) := by
  have hl : (pre ++ (c, i) :: post).length = pre.length + 1 + post.length := by simp; omega
  have hrd := rd_mk pre (c, i) post
  have hpc := pow_lt64 hc
  simp only [spec_Decomposed.l0]
  rw [hrd, List.length_map, hl, if_pos (by omega), if_pos (by omega), if_pos (by omega)]
  have e1 : Int.tmod ((mkS (c, i)).f1) 2 = ((i % 2 : Nat) : Int) := (Int.ofNat_tmod i 2).symm
  have e2 : (mkS (c, i)).f0 = (c : Int) := rfl
  have e3 : wrap64 ((pre.length : Int) + 1) = ((pre ++ [(c, i)]).length : Int) := by
    rw [hl] at hlen
    rw [w64 (by omega) (by omega), List.length_append, List.length_singleton]; omega
  rw [e1, e2, e3, shl_u64 (x := 1) (y := (c : Int)) 1 c rfl rfl (by omega) (by omega), Nat.one_mul, bits_or_u64_nat _ _ ha hpc, bits_or_u64_nat _ _ hr hpc]
  by_cases hi : i % 2 = 1
  · rw [if_pos (by omega), if_pos (by omega), if_pos hi, if_pos hi]
  · rw [if_neg (by omega), if_pos (by omega), if_neg hi, if_neg hi]

/-- The nodes ahead of M make the left mask. -/
theorem fold_left (M d : Nat) (hd : d ≤ 64) (hM : 2 ^ d ∣ M) (f : Nat) :
    ∀ (L a r k j : Nat) (pre post : List (Nat × Nat)), f ≤ 64 → L < 2 ^ d → L ≤ M → 64 - f ≤ j → 2 ^ j ∣ L → a < 2 ^ j → r < 18446744073709551616 → (pre ++ (leftN f M L ++ post)).length < 1000 →
      spec_Decomposed.l0 (k + (leftN f M L).length) (a : Int) (r : Int) ((pre ++ (leftN f M L ++ post)).map mkS) (((pre ++ (leftN f M L ++ post)).map mkS).length : Int) (pre.length : Int) =
      spec_Decomposed.l0 k ((a + L : Nat) : Int) (r : Int) ((pre ++ (leftN f M L ++ post)).map mkS) (((pre ++ (leftN f M L ++ post)).map mkS).length : Int) ((pre ++ leftN f M L).length : Int) := by
  induction f with
  | zero =>
    intro L a r k j pre post _ hL _ hj hdv0 _ _ _
    have hdv : 2 ^ 64 ∣ L := Nat.dvd_trans (Nat.pow_dvd_pow 2 (by omega)) hdv0
    have h0 : L = 0 := by
      obtain ⟨u, hu⟩ := hdv
      have : 2 ^ d ≤ 2 ^ 64 := Nat.pow_le_pow_right (by omega) hd
      have hu0 : u = 0 := by
        rcases Nat.eq_zero_or_pos u with h | h
        · exact h
        · exfalso
          have : 2 ^ 64 * 1 ≤ 2 ^ 64 * u := Nat.mul_le_mul_left _ h
          omega
      rw [hu, hu0, Nat.mul_zero]
    subst h0
    simp [leftN]
  | succ f ih =>
    intro L a r k j pre post hf hL hLM hj hdv ha hr hlen
    by_cases h0 : L = 0
    · subst h0
      simp [leftN]
    have hs := lstep f d M L hf h0 hL hd hM hLM (Nat.dvd_trans (Nat.pow_dvd_pow 2 hj) hdv)
    have hL64 : L < 2 ^ 64 := Nat.lt_of_lt_of_le hL (Nat.pow_le_pow_right (by omega) hd)
    have hjc : j ≤ Lib.ctz 64 L := by
      obtain ⟨m, h1, _⟩ := Ytmcelgfekffinaa.M.ctz_spec L h0 hL64
      rw [h1] at hdv
      exact Ytmcelgfekffinaa.M.pow_dvd_le hdv
    have hun : leftN (f + 1) M L = (Lib.ctz 64 L, (M - L) / 2 ^ Lib.ctz 64 L) :: leftN f M (L - 2 ^ Lib.ctz 64 L) := by
      rw [leftN, if_neg h0]
    rw [hun] at hlen ⊢
    generalize Lib.ctz 64 L = c at *
    obtain ⟨c63, cd, fc, le, dvd, ⟨m, odd⟩, low⟩ := hs
    have hpc := pow_lt64 c63
    have hac : a < 2 ^ c := Nat.lt_of_lt_of_le ha (Nat.pow_le_pow_right (by omega) hjc)
    have ha2 : a + 2 ^ c < 2 ^ (c + 1) := by rw [Nat.pow_succ]; omega
    have hodd : (M - L) / 2 ^ c % 2 = 1 := by rw [odd, Nat.mul_div_cancel_left _ (Nat.two_pow_pos c)]; omega
    have hlt : L - 2 ^ c < 2 ^ d := by omega
    have h1 := round_of (k + (leftN f M (L - 2 ^ c)).length) a r pre (leftN f M (L - 2 ^ c) ++ post) c ((M - L) / 2 ^ c) c63 (by omega) hr hlen
    rw [if_pos hodd, if_pos hodd, or_pow hac] at h1
    have h2 := ih (L - 2 ^ c) (a + 2 ^ c) r k (c + 1) (pre ++ [(c, (M - L) / 2 ^ c)]) post (by omega) hlt (by omega) (by omega) dvd ha2 hr (by simpa using hlen)
    rw [show a + 2 ^ c + (L - 2 ^ c) = a + L by omega] at h2
    simp only [List.append_assoc, List.cons_append, List.nil_append, List.length_cons] at h1 h2 ⊢
    rw [← Nat.add_assoc, h1, h2]

/-- The nodes behind M make the right mask. -/
theorem fold_right (e : Nat) (he : e < 18446744073709551616) (f : Nat) :
    ∀ (R a r k : Nat) (pre : List (Nat × Nat)), f ≤ 64 → R < 2 ^ f → R ≤ e → 2 ^ f ∣ e - R → 2 ^ f ∣ r → r + R ≤ e → a < 18446744073709551616 → (pre ++ rightN f e R).length < 1000 →
      spec_Decomposed.l0 (k + 1 + (rightN f e R).length) (a : Int) (r : Int) ((pre ++ rightN f e R).map mkS) (((pre ++ rightN f e R).map mkS).length : Int) (pre.length : Int) = some ((a : Int), ((r + R : Nat) : Int)) := by
  induction f using Nat.strongRecOn with
  | _ f ih =>
  intro R a r k pre hf hR hRe hdv hdr hre ha hlen
  by_cases h0 : R = 0
  · subst h0
    have : rightN f e 0 = [] := by cases f <;> simp [rightN]
    rw [this]
    simp [spec_Decomposed.l0]
  obtain ⟨f, rfl⟩ : ∃ g, f = g + 1 := by
    refine ⟨f - 1, ?_⟩
    rcases Nat.eq_zero_or_pos f with h | h
    · subst h; simp at hR; omega
    · omega
  have hs := rstep f e R hf h0 hR hRe hdv
  have hun : rightN (f + 1) e R = (Lib.bitLen R - 1, (e - R) / 2 ^ (Lib.bitLen R - 1)) :: rightN f e (R - 2 ^ (Lib.bitLen R - 1)) := by
    rw [rightN, if_neg h0]
  rw [hun] at hlen ⊢
  generalize Lib.bitLen R - 1 = c at *
  obtain ⟨c63, cf, le, lt, rest, ⟨m, even⟩, dvd⟩ := hs
  have hfuel : rightN f e (R - 2 ^ c) = rightN c e (R - 2 ^ c) := rightN_fuel c f e _ cf (by omega) rest
  rw [hfuel] at hlen ⊢
  have heven : ¬ (e - R) / 2 ^ c % 2 = 1 := by rw [even, Nat.mul_div_cancel_left _ (Nat.two_pow_pos c)]; omega
  have hdc : 2 ^ (c + 1) ∣ r := Nat.dvd_trans (Nat.pow_dvd_pow 2 (by omega)) hdr
  have h1 := round_of (k + 1 + (rightN c e (R - 2 ^ c)).length) a r pre (rightN c e (R - 2 ^ c)) c ((e - R) / 2 ^ c) c63 ha (by omega) hlen
  rw [if_neg heven, if_neg heven, or_pow' hdc] at h1
  have hd2 : 2 ^ c ∣ r + 2 ^ c := Nat.dvd_add (Nat.dvd_trans (Nat.pow_dvd_pow 2 (by omega)) hdr) (Nat.dvd_refl _)
  have h2 := ih c (by omega) (R - 2 ^ c) a (r + 2 ^ c) k (pre ++ [(c, (e - R) / 2 ^ c)]) (by omega) rest (by omega) dvd hd2 (by omega) ha (by simpa using hlen)
  rw [show r + 2 ^ c + (R - 2 ^ c) = r + R by omega] at h2
  simp only [List.append_assoc, List.cons_append, List.nil_append, List.length_cons] at h1 h2 ⊢
  rw [← Nat.add_assoc, h1, h2]

theorem decomposed_of {b e L R M d : Nat} (hm : Mid b e L R M d) (he : e < 18446744073709551616) : ∃ k, spec_Decomposed.f k (b : Int) (e : Int) = some ((L : Int), (R : Int)) := by
  obtain ⟨k1, hk1⟩ := nodes_of hm he
  obtain ⟨lo, hi, d64, dvd, l, r, _, _⟩ := hm
  have hl1 := leftN_len 64 M L
  have hl2 := rightN_len 64 e R
  have e1 := rightN_fuel d 64 e R (by omega) (by omega) r
  have h2 := fold_right e he d R L 0 0 (leftN 64 M L) (by omega) r (by omega) (by rw [show e - R = M by omega]; exact dvd) (Nat.dvd_zero _) (by omega) (by omega) (by
    rw [← e1, List.length_append]; omega)
  rw [← e1] at h2
  have h1 := fold_left M d (by omega) dvd 64 L 0 0 (0 + 1 + (rightN 64 e R).length) 0 [] (rightN 64 e R) (by omega) l (by omega) (by omega) (by simp) (by simp) (by omega) (by
    rw [List.nil_append, List.length_append]; omega)
  rw [List.nil_append, List.nil_append, Nat.zero_add L] at h1
  rw [Nat.zero_add R] at h2
  have h3 := h1.trans h2
  refine ⟨k1 + (0 + 1 + (rightN 64 e R).length + (leftN 64 M L).length), ?_⟩
  unfold spec_Decomposed.f
  rw [at_rounds (spec_Nodes.mono (b : Int) (e : Int)) (Nat.le_add_right k1 _) hk1]
  simp only [Option.bind_some]
  exact at_rounds (fun k => spec_Decomposed.mono_l k _ _ _ _ _) (Nat.le_add_left _ k1) h3

theorem FnDecompose : laws_FnDecompose.Pure := by
  intro a0 a1 w0 w1
  have b0 := bounds_u64 w0
  have b1 := bounds_u64 w1
  obtain ⟨b, rfl⟩ := Int.eq_ofNat_of_zero_le b0.1
  obtain ⟨e, rfl⟩ := Int.eq_ofNat_of_zero_le b1.1
  by_cases hbe : (b : Int) > (e : Int)
  · exact ⟨0, by unfold laws_FnDecompose.f; rw [if_pos hbe]⟩
  obtain ⟨L, R, M, d, hf, hm⟩ := decompose_of b e (by omega) (by omega)
  obtain ⟨k, hk⟩ := decomposed_of hm (by omega)
  refine ⟨k, ?_⟩
  unfold laws_FnDecompose.f impl_Decompose.f
  rw [if_neg hbe, hf, hk]
  simp

end Go.Proofs.Ytmcelgfekffinaa.Pure
