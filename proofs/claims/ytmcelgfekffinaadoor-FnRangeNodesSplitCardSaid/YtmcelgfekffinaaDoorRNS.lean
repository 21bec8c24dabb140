/- The law of ranges that are split. -/
import Derived.Test.YtmcelgfekffinaaDoorDy
import Derived.Test.YtmcelgfekffinaaDoorPc
import Derived.Test.YtmcelgfekffinaaDoorDec
import Derived.Test.YtmcelgfekffinaaDoorQx3
namespace Go.Proofs.YtmcelgfekffinaaDoor.Pure
open Go.RowKit Go.Proofs.YtmcelgfekffinaaDoor.Q Go.Proofs.YtmcelgfekffinaaDoorW.PrintWords Go.Proofs.YtmcelgfekffinaaDoorW.PrintLast
open Go.Proofs.YtmcelgfekffinaaDoor.M (leftN rightN nodesN lstep rstep rightN_fuel leftN_len rightN_len Nodes across)

theorem pow_lt64 {c : Nat} (h : c ≤ 63) : 2 ^ c < 18446744073709551616 := by
  have : 2 ^ c ≤ 2 ^ 63 := Nat.pow_le_pow_right (by omega) h
  omega
def mk27 (x : Nat × Nat) : S27 := ⟨(x.1 : Int), (x.2 : Int)⟩
def mk46 (x : Nat × Nat) : S46 := ⟨(x.1 : Int), (x.2 : Int)⟩
theorem rd27 (pre : List (Nat × Nat)) (x : Nat × Nat) (post : List (Nat × Nat)) : rd_T27 ((pre ++ x :: post).map mk27) (pre.length : Int) = mk27 x := by
  unfold rd_T27
  rw [Int.toNat_natCast, List.getD_eq_getElem?_getD, List.getElem?_map, List.getElem?_append_right (Nat.le_refl _), Nat.sub_self]
  rfl
theorem rd46 (pre : List (Nat × Nat)) (x : Nat × Nat) (post : List (Nat × Nat)) : rd_T46 ((pre ++ x :: post).map mk46) (pre.length : Int) = mk46 x := by
  unfold rd_T46
  rw [Int.toNat_natCast, List.getD_eq_getElem?_getD, List.getElem?_map, List.getElem?_append_right (Nat.le_refl _), Nat.sub_self]
  rfl

/-- The list in the package's own words. -/
theorem fromNodes_of (post : List (Nat × Nat)) : ∀ (k : Nat) (pre : List (Nat × Nat)) (out : List S27), out.length + post.length < 1000 → (pre ++ post).length < 1000 →
    impl_fromNodes.l0 (k + 1 + post.length) out ((pre ++ post).map mk46) (((pre ++ post).length : Nat) : Int) (pre.length : Int) = some (out ++ post.map mk27) := by
  induction post with
  | nil =>
    intro k pre out h h'
    simp [impl_fromNodes.l0]
  | cons x post ih =>
    intro k pre out h h'
    have hl : (pre ++ x :: post).length = pre.length + 1 + post.length := by simp; omega
    have hrd := rd46 pre x post
    rw [List.length_cons, show k + 1 + (post.length + 1) = (k + 1 + post.length) + 1 by omega]
    have hi := ih k (pre ++ [x]) (out ++ [mk27 x]) (by simp only [List.length_append, List.length_cons, List.length_nil] at h ⊢; omega) (by simp only [List.length_append, List.length_cons, List.length_nil] at h' ⊢; omega)
    generalize k + 1 + post.length = kk at *
    simp only [impl_fromNodes.l0]
    rw [hrd, if_pos (by omega), if_pos (by omega), if_pos (by rw [List.length_map]; omega)]
    have e1 : wrap64 ((pre.length : Int) + 1) = ((pre ++ [x]).length : Int) := by
      rw [hl] at h'
      rw [w64 (by omega) (by omega), List.length_append, List.length_singleton]; omega
    simp only [impl_fromNode.f, Option.bind_some]
    rw [if_pos (by rw [List.length_cons] at h; omega), e1]
    simp only [List.append_assoc, List.cons_append, List.nil_append] at hi
    simp only [List.map_cons]
    exact hi
theorem fromNodes_all (l : List (Nat × Nat)) (h : l.length < 1000) : ∃ k, impl_fromNodes.f k (l.map mk46) = some (l.map mk27) := by
  refine ⟨0 + 1 + l.length, ?_⟩
  unfold impl_fromNodes.f
  have := fromNodes_of l 0 [] [] (by simpa using h) (by simpa using h)
  simpa using this

theorem hasNode_of (a : Nat × Nat) (post : List (Nat × Nat)) : ∀ (k : Nat) (pre : List (Nat × Nat)), (pre ++ post).length < 1000 →
    spec_HasNode.l0 (k + 1 + post.length) ((pre ++ post).map mk27) (((pre ++ post).length : Nat) : Int) (pre.length : Int) (a.1 : Int) (a.2 : Int) = some (decide (a ∈ post)) := by
  induction post with
  | nil =>
    intro k pre h
    simp [spec_HasNode.l0]
  | cons x post ih =>
    intro k pre h
    have hl : (pre ++ x :: post).length = pre.length + 1 + post.length := by simp; omega
    have hrd := rd27 pre x post
    rw [List.length_cons, show k + 1 + (post.length + 1) = (k + 1 + post.length) + 1 by omega]
    have hi := ih k (pre ++ [x]) (by simp at h ⊢; omega)
    generalize k + 1 + post.length = kk at *
    simp only [spec_HasNode.l0]
    rw [hrd, if_pos (by omega), if_pos (by omega), if_pos (by rw [List.length_map]; omega)]
    have e1 : wrap64 ((pre.length : Int) + 1) = ((pre ++ [x]).length : Int) := by
      rw [hl] at h
      rw [w64 (by omega) (by omega), List.length_append, List.length_singleton]; omega
    rw [e1]
    simp only [List.append_assoc, List.cons_append, List.nil_append] at hi
    rw [hi]
    by_cases hx : a = x
    · subst hx
      rw [if_pos (by simp [mk27])]
      simp
    · rw [if_neg]
      · have : decide (a ∈ x :: post) = decide (a ∈ post) := by simp [hx]
        rw [this]
      · intro hh
        rw [Bool.and_eq_true, beq_iff_eq, beq_iff_eq] at hh
        apply hx
        have h1 : (x.1 : Int) = a.1 := hh.1
        have h2 : (x.2 : Int) = a.2 := hh.2
        exact (Prod.ext (by omega) (by omega) : a = x)
theorem hasNode_all (l : List (Nat × Nat)) (a : Nat × Nat) (h : l.length < 1000) : ∃ k, spec_HasNode.f k (l.map mk27) (a.1 : Int) (a.2 : Int) = some (decide (a ∈ l)) := by
  refine ⟨0 + 1 + l.length, ?_⟩
  unfold spec_HasNode.f
  have := hasNode_of a l 0 [] (by simpa using h)
  simpa using this

theorem xor_pow {L c : Nat} (a : Nat) (ha : a.testBit c = false) (hL : a ||| 2 ^ c = L) : L ^^^ 2 ^ c = a := by
  subst hL
  apply Nat.eq_of_testBit_eq
  intro i
  rw [Nat.testBit_xor, Nat.testBit_or, Nat.testBit_two_pow]
  by_cases hi : c = i
  · subst hi; simp [ha]
  · simp [hi]
theorem or_pow {a c : Nat} (h : a < 2 ^ c) : a ||| 2 ^ c = a + 2 ^ c := by
  rw [Nat.or_comm, Nat.add_comm]
  have := Nat.two_pow_add_eq_or_of_lt h 1
  rw [Nat.mul_one] at this
  exact this.symm
theorem or_pow' {a c : Nat} (h : 2 ^ (c + 1) ∣ a) : a ||| 2 ^ c = a + 2 ^ c := by
  obtain ⟨u, rfl⟩ := h
  exact (Nat.two_pow_add_eq_or_of_lt (Nat.pow_lt_pow_right (by omega) (by omega)) u).symm

theorem xor_low {L c : Nat} (hle : 2 ^ c ≤ L) (h : 2 ^ (c + 1) ∣ L - 2 ^ c) : L ^^^ 2 ^ c = L - 2 ^ c := by
  refine xor_pow (L - 2 ^ c) ?_ (by rw [or_pow' h]; omega)
  obtain ⟨u, hu⟩ := h
  rw [hu, Nat.testBit_two_pow_mul]
  simp
  omega
theorem xor_top {R c : Nat} (hle : 2 ^ c ≤ R) (h : R - 2 ^ c < 2 ^ c) : R ^^^ 2 ^ c = R - 2 ^ c :=
  xor_pow (R - 2 ^ c) (Nat.testBit_lt_two_pow h) (by rw [or_pow h]; omega)

/-- The part behind, as the program makes it. -/
theorem right_run (e : Nat) (he : e < 18446744073709551616) (f : Nat) : ∀ (R : Nat) (out : List S46), f ≤ 64 → R < 2 ^ f → R ≤ e → 2 ^ f ∣ e - R → out.length + f < 1000 →
    ∃ k, compact_RangeNodes.l1 k out (R : Int) ((e - R : Nat) : Int) = some (out ++ (rightN f e R).map mk46) := by
  induction f using Nat.strongRecOn with
  | _ f ih =>
  intro R out hf hR hRe hdv hout
  by_cases h0 : R = 0
  · subst h0
    have : rightN f e 0 = [] := by cases f <;> simp [rightN]
    rw [this]
    exact ⟨1, by simp [compact_RangeNodes.l1]⟩
  obtain ⟨f, rfl⟩ : ∃ g, f = g + 1 := by
    refine ⟨f - 1, ?_⟩
    rcases Nat.eq_zero_or_pos f with h | h
    · subst h; simp at hR; omega
    · omega
  have hs := rstep f e R hf h0 hR hRe hdv
  have hun : rightN (f + 1) e R = (Lib.bitLen R - 1, (e - R) / 2 ^ (Lib.bitLen R - 1)) :: rightN f e (R - 2 ^ (Lib.bitLen R - 1)) := by
    rw [rightN, if_neg h0]
  have hR64 : R < 2 ^ 64 := Nat.lt_of_lt_of_le hR (Nat.pow_le_pow_right (by omega) hf)
  obtain ⟨b1, b2, _, _⟩ := M.len_spec R h0 hR64
  have hlen : bits_Len64.f (R : Int) = some ((Lib.bitLen R - 1 + 1 : Nat) : Int) := by
    unfold bits_Len64.f
    rw [if_pos (by omega), if_pos (by omega), Int.toNat_natCast]
    congr 2; omega
  rw [hun]
  generalize Lib.bitLen R - 1 = c at *
  obtain ⟨c63, cf, le, lt, rest, ⟨m, even⟩, dvd⟩ := hs
  have hsub : e - (R - 2 ^ c) = e - R + 2 ^ c := by omega
  have hfuel : rightN f e (R - 2 ^ c) = rightN c e (R - 2 ^ c) := rightN_fuel c f e _ cf (by omega) rest
  obtain ⟨k, hk⟩ := ih c (by omega) (R - 2 ^ c) (out ++ [mk46 (c, (e - R) / 2 ^ c)]) (by omega) rest (by omega) dvd (by rw [List.length_append, List.length_singleton]; omega)
  rw [hsub] at hk
  have hpc := pow_lt64 c63
  refine ⟨k + 1, ?_⟩
  simp only [compact_RangeNodes.l1]
  have e1 : IntKind.u64.wrap ((IntKind.u64.wrap ((c + 1 : Nat) : Int)) - 1) = (c : Int) := by rw [wu64 (n := ((c + 1 : Nat) : Int)) (by omega) (by omega), wu64 (by omega) (by omega)]; omega
  rw [if_neg (by omega), hlen]
  simp only [Option.bind_some, e1, compact_NewNodeID.f]
  rw [if_pos (by omega), if_pos (by omega), shr_u64 (e - R) c rfl rfl (by omega), shl_u64 (x := 1) (y := (c : Int)) 1 c rfl rfl (by omega) (by omega), Nat.one_mul, bits_xor_u64_nat _ _ (by omega) hpc, xor_top le rest, wu64 (by omega) (by omega)]
  rw [show ((e - R : Nat) : Int) + ((2 ^ c : Nat) : Int) = ((e - R + 2 ^ c : Nat) : Int) by push_cast; rfl, hfuel]
  have : out ++ ((c, (e - R) / 2 ^ c) :: rightN c e (R - 2 ^ c)).map mk46 = out ++ [mk46 (c, (e - R) / 2 ^ c)] ++ (rightN c e (R - 2 ^ c)).map mk46 := by simp
  rw [this]
  exact hk

/-- The part ahead. -/
theorem left_run (M d e R : Nat) (he : e < 18446744073709551616) (hd : d ≤ 64) (hM : 2 ^ d ∣ M) (hMe : M ≤ e) (f : Nat) :
    ∀ (L : Nat) (out : List S46) (r : List S46), f ≤ 64 → L < 2 ^ d → L ≤ M → 2 ^ (64 - f) ∣ L → out.length + f < 1000 →
      (∃ k, compact_RangeNodes.l1 k (out ++ (leftN f M L).map mk46) (R : Int) (M : Int) = some r) → ∃ k, compact_RangeNodes.l0 k out (L : Int) (R : Int) ((M - L : Nat) : Int) = some r := by
  induction f with
  | zero =>
    intro L out r _ hL _ hdv _ h
    have h0 : L = 0 := Nat.eq_zero_of_dvd_of_lt hdv (Nat.lt_of_lt_of_le hL (Nat.pow_le_pow_right (by omega) hd))
    subst h0
    obtain ⟨k, hk⟩ := h
    exact ⟨k + 1, by simpa [leftN, compact_RangeNodes.l0] using hk⟩
  | succ f ih =>
    intro L out r hf hL hLM hdv hout h
    by_cases h0 : L = 0
    · subst h0
      obtain ⟨k, hk⟩ := h
      exact ⟨k + 1, by simpa [leftN, compact_RangeNodes.l0] using hk⟩
    have hs := lstep f d M L hf h0 hL hd hM hLM hdv
    have hctz : bits_TrailingZeros64.f (L : Int) = some ((Lib.ctz 64 L : Nat) : Int) := by
      have hL64 : L < 2 ^ 64 := Nat.lt_of_lt_of_le hL (Nat.pow_le_pow_right (by omega) hd)
      unfold bits_TrailingZeros64.f
      rw [if_pos (by omega), if_pos (by omega), Int.toNat_natCast]
    unfold leftN at h
    rw [if_neg h0] at h
    generalize Lib.ctz 64 L = c at *
    obtain ⟨c63, cd, fc, le, dvd, ⟨m, odd⟩, low⟩ := hs
    rw [List.map_cons, List.append_cons] at h
    have hsub : M - (L - 2 ^ c) = M - L + 2 ^ c := by omega
    have hlt : L - 2 ^ c < 2 ^ d := by omega
    obtain ⟨k, hk⟩ := ih (L - 2 ^ c) (out ++ [mk46 (c, (M - L) / 2 ^ c)]) r (by omega) hlt (by omega) (Nat.dvd_trans (Nat.pow_dvd_pow 2 (by omega)) dvd) (by rw [List.length_append, List.length_singleton]; omega) h
    rw [hsub] at hk
    have hpc := pow_lt64 c63
    refine ⟨k + 1, ?_⟩
    simp only [compact_RangeNodes.l0]
    have e1 : IntKind.u64.wrap (c : Int) = (c : Int) := wu64 (by omega) (by omega)
    rw [if_neg (by omega), hctz]
    simp only [Option.bind_some, e1, compact_NewNodeID.f]
    rw [if_pos (by omega), if_pos (by omega), shr_u64 (M - L) c rfl rfl (by omega), shl_u64 (x := 1) (y := (c : Int)) 1 c rfl rfl (by omega) (by omega), Nat.one_mul, bits_xor_u64_nat _ _ (by omega) hpc, xor_low le dvd, wu64 (by omega) (by omega)]
    rw [show ((M - L : Nat) : Int) + ((2 ^ c : Nat) : Int) = ((M - L + 2 ^ c : Nat) : Int) by push_cast; rfl]
    exact hk

theorem rangeNodes_of {b e L R M d : Nat} (hf : compact_Decompose.f (b : Int) (e : Int) = some ((L : Int), (R : Int))) (hm : Mid b e L R M d) (he : e < 18446744073709551616) (out : List S46) (ho : out.length < 800) :
    ∃ k, compact_RangeNodes.f k (b : Int) (e : Int) out = some (out ++ (nodesN M e L R).map mk46) := by
  obtain ⟨lo, hi, d64, dvd, l, r, _, _⟩ := hm
  have hl := leftN_len 64 M L
  have hr := right_run e he d R (out ++ (leftN 64 M L).map mk46) (by omega) r (by omega) (by rw [show e - R = M by omega]; exact dvd) (by
    rw [List.length_append, List.length_map]; omega)
  rw [show e - R = M by omega, ← rightN_fuel d 64 e R (by omega) (by omega) r] at hr
  obtain ⟨k, hk⟩ := left_run M d e R he (by omega) dvd (by omega) 64 L out _ (by omega) l (by omega) (by simp) (by omega) hr
  rw [show M - L = b by omega] at hk
  refine ⟨k, ?_⟩
  unfold compact_RangeNodes.f
  rw [hf]
  simp only [Option.bind_some]
  rw [hk, nodesN, List.map_append, List.append_assoc]

/-- The exported list. -/
theorem toNodes_of (b e : Int) (r : List S27) (post : List (Nat × Nat)) : ∀ (pre : List (Nat × Nat)), (pre ++ post).length < 800 →
    (∃ k, impl_RangeNodes.l0 k b e ((pre ++ post).map mk46) ((pre ++ post).map mk27) (((pre ++ post).length : Nat) : Int) ((pre ++ post).length : Int) = some r) →
    ∃ k, impl_RangeNodes.l0 k b e (pre.map mk46) ((pre ++ post).map mk27) (((pre ++ post).length : Nat) : Int) (pre.length : Int) = some r := by
  induction post with
  | nil =>
    intro pre _ h
    simpa using h
  | cons x post ih =>
    intro pre h hh
    have hl : (pre ++ x :: post).length = pre.length + 1 + post.length := by simp; omega
    have hrd := rd27 pre x post
    have hi := ih (pre ++ [x]) (by simp at h ⊢; omega)
    simp only [List.append_assoc, List.cons_append, List.nil_append] at hi
    obtain ⟨k, hk⟩ := hi hh
    refine ⟨k + 1, ?_⟩
    simp only [impl_RangeNodes.l0]
    rw [hrd, if_pos (by omega), if_pos (by omega), if_pos (by rw [List.length_map]; omega)]
    have e1 : wrap64 ((pre.length : Int) + 1) = ((pre ++ [x]).length : Int) := by
      rw [hl] at h
      rw [w64 (by omega) (by omega), List.length_append, List.length_singleton]; omega
    simp only [impl_toNode.f, compact_NewNodeID.f, Option.bind_some]
    rw [if_pos (by rw [List.length_map]; omega), e1]
    rw [List.map_append] at hk
    exact hk

theorem implNodes_of {b e L R M d : Nat} (hf : compact_Decompose.f (b : Int) (e : Int) = some ((L : Int), (R : Int))) (hm : Mid b e L R M d) (he : e < 18446744073709551616) (out : List (Nat × Nat)) (ho : out.length < 300) :
    ∃ k, impl_RangeNodes.f k (b : Int) (e : Int) (out.map mk27) = some ((out ++ nodesN M e L R).map mk27) := by
  obtain ⟨k1, h1⟩ := rangeNodes_of hf hm he (out.map mk46) (by rw [List.length_map]; omega)
  have hl1 := leftN_len 64 M L
  have hl2 := rightN_len 64 e R
  obtain ⟨k2, h2⟩ := fromNodes_all (out ++ nodesN M e L R) (by rw [List.length_append, nodesN, List.length_append]; omega)
  rw [← List.map_append] at h1
  have h3 := toNodes_of (b : Int) (e : Int) ((out ++ nodesN M e L R).map mk27) out [] (by simp; omega) ⟨k1 + k2 + 1, by
    simp only [List.nil_append, impl_RangeNodes.l0]
    rw [if_neg (by omega), at_rounds (fun k => compact_RangeNodes.mono _ _ _ k) (Nat.le_add_right k1 k2) h1]
    simp only [Option.bind_some]
    rw [at_rounds (fun k => impl_fromNodes.mono _ k) (Nat.le_add_left k2 k1) h2]
    rfl⟩
  obtain ⟨k, hk⟩ := h3
  refine ⟨k, ?_⟩
  unfold impl_RangeNodes.f
  rw [List.length_map]
  simpa using hk

end Go.Proofs.YtmcelgfekffinaaDoor.Pure
