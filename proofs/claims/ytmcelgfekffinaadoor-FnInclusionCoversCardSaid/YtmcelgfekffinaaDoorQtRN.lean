/- Ranges' nodes as the program makes them, and how many they are. -/
import Derived.Test.YtmcelgfekffinaaDoorCh
import Derived.Test.YtmcelgfekffinaaDoorPc
import Derived.Test.YtmcelgfekffinaaDoorQtDec2
import Derived.Test.YtmcelgfekffinaaDoorQtx2
import Derived.Test.YtmcelgfekffinaaDoorQtx3
namespace Go.Proofs.YtmcelgfekffinaaDoor.Pure
open Go.RowKit Go.Proofs.YtmcelgfekffinaaDoor.Qt Go.Proofs.YtmcelgfekffinaaDoorW.PrintWords Go.Proofs.YtmcelgfekffinaaDoorW.PrintLast
open Go.Proofs.YtmcelgfekffinaaDoor.M (leftN rightN nodesN lstep rstep rightN_fuel leftN_len rightN_len IsN pc y1 y2 y3)

theorem pow_lt64 {c : Nat} (h : c ≤ 63) : 2 ^ c < 18446744073709551616 := by
  have : 2 ^ c ≤ 2 ^ 63 := Nat.pow_le_pow_right (by omega) h
  omega
def mk27 (x : Nat × Nat) : S27 := ⟨(x.1 : Int), (x.2 : Int)⟩
def mk46 (x : Nat × Nat) : S46 := ⟨(x.1 : Int), (x.2 : Int)⟩
theorem rd27 (pre : List (Nat × Nat)) (x : Nat × Nat) (post : List (Nat × Nat)) : rd_T27 ((pre ++ x :: post).map mk27) (pre.length : Int) = mk27 x := by
  unfold rd_T27
  rw [Int.toNat_natCast, List.getD_eq_getElem?_getD, List.getElem?_map, List.getElem?_append_right (Nat.le_refl _), Nat.sub_self]
  rfl
theorem rd46 (pre : List (Nat × Nat)) (x : Nat × Nat) (post : List (Nat × Nat)) : rd_T46 ((pre ++ x :: post).map mk46) (pre.length : Int) = mk46 x := by
  unfold rd_T46
  rw [Int.toNat_natCast, List.getD_eq_getElem?_getD, List.getElem?_map, List.getElem?_append_right (Nat.le_refl _), Nat.sub_self]
  rfl

/-- The list in the package's own words. -/
theorem fromNodes_of (post : List (Nat × Nat)) : ∀ (k : Nat) (pre : List (Nat × Nat)) (out : List S27), out.length + post.length < 1000 → (pre ++ post).length < 1000 →
    impl_fromNodes.l0 (k + 1 + post.length) out ((pre ++ post).map mk46) (((pre ++ post).length : Nat) : Int) (pre.length : Int) = some (out ++ post.map mk27) := by
  induction post with
  | nil =>
    intro k pre out h h'
    simp [impl_fromNodes.l0]
  | cons x post ih =>
    intro k pre out h h'
    have hl : (pre ++ x :: post).length = pre.length + 1 + post.length := by simp; omega
    have hrd := rd46 pre x post
    rw [List.length_cons, show k + 1 + (post.length + 1) = (k + 1 + post.length) + 1 by omega]
    have hi := ih k (pre ++ [x]) (out ++ [mk27 x]) (by simp only [List.length_append, List.length_cons, List.length_nil] at h ⊢; omega) (by simp only [List.length_append, List.length_cons, List.length_nil] at h' ⊢; omega)
    generalize k + 1 + post.length = kk at *
    simp only [impl_fromNodes.l0]
    rw [hrd, if_pos (by omega), if_pos (by omega), if_pos (by rw [List.length_map]; omega)]
    have e1 : wrap64 ((pre.length : Int) + 1) = ((pre ++ [x]).length : Int) := by
      rw [hl] at h'
      rw [w64 (by omega) (by omega), List.length_append, List.length_singleton]; omega
    simp only [impl_fromNode.f, Option.bind_some]
    rw [if_pos (by rw [List.length_cons] at h; omega), e1]
    simp only [List.append_assoc, List.cons_append, List.nil_append] at hi
    simp only [List.map_cons]
    exact hi
theorem fromNodes_all (l : List (Nat × Nat)) (h : l.length < 1000) : ∃ k, impl_fromNodes.f k (l.map mk46) = some (l.map mk27) := by
  refine ⟨0 + 1 + l.length, ?_⟩
  unfold impl_fromNodes.f
  have := fromNodes_of l 0 [] [] (by simpa using h) (by simpa using h)
  simpa using this

theorem xor_pow {L c : Nat} (a : Nat) (ha : a.testBit c = false) (hL : a ||| 2 ^ c = L) : L ^^^ 2 ^ c = a := by
  subst hL
  apply Nat.eq_of_testBit_eq
  intro i
  rw [Nat.testBit_xor, Nat.testBit_or, Nat.testBit_two_pow]
  by_cases hi : c = i
  · subst hi; simp [ha]
  · simp [hi]
theorem or_pow {a c : Nat} (h : a < 2 ^ c) : a ||| 2 ^ c = a + 2 ^ c := by
  rw [Nat.or_comm, Nat.add_comm]
  have := Nat.two_pow_add_eq_or_of_lt h 1
  rw [Nat.mul_one] at this
  exact this.symm
theorem or_pow' {a c : Nat} (h : 2 ^ (c + 1) ∣ a) : a ||| 2 ^ c = a + 2 ^ c := by
  obtain ⟨u, rfl⟩ := h
  exact (Nat.two_pow_add_eq_or_of_lt (Nat.pow_lt_pow_right (by omega) (by omega)) u).symm

theorem xor_low {L c : Nat} (hle : 2 ^ c ≤ L) (h : 2 ^ (c + 1) ∣ L - 2 ^ c) : L ^^^ 2 ^ c = L - 2 ^ c := by
  refine xor_pow (L - 2 ^ c) ?_ (by rw [or_pow' h]; omega)
  obtain ⟨u, hu⟩ := h
  rw [hu, Nat.testBit_two_pow_mul]
  simp
  omega
theorem xor_top {R c : Nat} (hle : 2 ^ c ≤ R) (h : R - 2 ^ c < 2 ^ c) : R ^^^ 2 ^ c = R - 2 ^ c :=
  xor_pow (R - 2 ^ c) (Nat.testBit_lt_two_pow h) (by rw [or_pow h]; omega)

/-- The part behind, as the program makes it. -/
theorem right_run (e : Nat) (he : e < 18446744073709551616) (f : Nat) : ∀ (R : Nat) (out : List S46), f ≤ 64 → R < 2 ^ f → R ≤ e → 2 ^ f ∣ e - R → out.length + f < 1000 →
    ∃ k, compact_RangeNodes.l1 k out (R : Int) ((e - R : Nat) : Int) = some (out ++ (rightN f e R).map mk46) := by
  induction f using Nat.strongRecOn with
  | _ f ih =>
  intro R out hf hR hRe hdv hout
  by_cases h0 : R = 0
  · subst h0
    have : rightN f e 0 = [] := by cases f <;> simp [rightN]
    rw [this]
    exact ⟨1, by simp [compact_RangeNodes.l1]⟩
  obtain ⟨f, rfl⟩ : ∃ g, f = g + 1 := by
    refine ⟨f - 1, ?_⟩
    rcases Nat.eq_zero_or_pos f with h | h
    · subst h; simp at hR; omega
    · omega
  have hs := rstep f e R hf h0 hR hRe hdv
  have hun : rightN (f + 1) e R = (Lib.bitLen R - 1, (e - R) / 2 ^ (Lib.bitLen R - 1)) :: rightN f e (R - 2 ^ (Lib.bitLen R - 1)) := by
    rw [rightN, if_neg h0]
  have hR64 : R < 2 ^ 64 := Nat.lt_of_lt_of_le hR (Nat.pow_le_pow_right (by omega) hf)
  obtain ⟨b1, b2, _, _⟩ := M.len_spec R h0 hR64
  have hlen : bits_Len64.f (R : Int) = some ((Lib.bitLen R - 1 + 1 : Nat) : Int) := by
    unfold bits_Len64.f
    rw [if_pos (by omega), if_pos (by omega), Int.toNat_natCast]
    congr 2; omega
  rw [hun]
  generalize Lib.bitLen R - 1 = c at *
  obtain ⟨c63, cf, le, lt, rest, ⟨m, even⟩, dvd⟩ := hs
  have hsub : e - (R - 2 ^ c) = e - R + 2 ^ c := by omega
  have hfuel : rightN f e (R - 2 ^ c) = rightN c e (R - 2 ^ c) := rightN_fuel c f e _ cf (by omega) rest
  obtain ⟨k, hk⟩ := ih c (by omega) (R - 2 ^ c) (out ++ [mk46 (c, (e - R) / 2 ^ c)]) (by omega) rest (by omega) dvd (by rw [List.length_append, List.length_singleton]; omega)
  rw [hsub] at hk
  have hpc := pow_lt64 c63
  refine ⟨k + 1, ?_⟩
  simp only [compact_RangeNodes.l1]
  have e1 : IntKind.u64.wrap ((IntKind.u64.wrap ((c + 1 : Nat) : Int)) - 1) = (c : Int) := by rw [wu64 (n := ((c + 1 : Nat) : Int)) (by omega) (by omega), wu64 (by omega) (by omega)]; omega
  rw [if_neg (by omega), hlen]
  simp only [Option.bind_some, e1, compact_NewNodeID.f]
  rw [if_pos (by omega), if_pos (by omega), shr_u64 (e - R) c rfl rfl (by omega), shl_u64 (x := 1) (y := (c : Int)) 1 c rfl rfl (by omega) (by omega), Nat.one_mul, bits_xor_u64_nat _ _ (by omega) hpc, xor_top le rest, wu64 (by omega) (by omega)]
  rw [show ((e - R : Nat) : Int) + ((2 ^ c : Nat) : Int) = ((e - R + 2 ^ c : Nat) : Int) by push_cast; rfl, hfuel]
  have : out ++ ((c, (e - R) / 2 ^ c) :: rightN c e (R - 2 ^ c)).map mk46 = out ++ [mk46 (c, (e - R) / 2 ^ c)] ++ (rightN c e (R - 2 ^ c)).map mk46 := by simp
  rw [this]
  exact hk

/-- The part ahead. -/
theorem left_run (M d e R : Nat) (he : e < 18446744073709551616) (hd : d ≤ 64) (hM : 2 ^ d ∣ M) (hMe : M ≤ e) (f : Nat) :
    ∀ (L : Nat) (out : List S46) (r : List S46), f ≤ 64 → L < 2 ^ d → L ≤ M → 2 ^ (64 - f) ∣ L → out.length + f < 1000 →
      (∃ k, compact_RangeNodes.l1 k (out ++ (leftN f M L).map mk46) (R : Int) (M : Int) = some r) → ∃ k, compact_RangeNodes.l0 k out (L : Int) (R : Int) ((M - L : Nat) : Int) = some r := by
  induction f with
  | zero =>
    intro L out r _ hL _ hdv _ h
    have h0 : L = 0 := Nat.eq_zero_of_dvd_of_lt hdv (Nat.lt_of_lt_of_le hL (Nat.pow_le_pow_right (by omega) hd))
    subst h0
    obtain ⟨k, hk⟩ := h
    exact ⟨k + 1, by simpa [leftN, compact_RangeNodes.l0] using hk⟩
  | succ f ih =>
    intro L out r hf hL hLM hdv hout h
    by_cases h0 : L = 0
    · subst h0
      obtain ⟨k, hk⟩ := h
      exact ⟨k + 1, by simpa [leftN, compact_RangeNodes.l0] using hk⟩
    have hs := lstep f d M L hf h0 hL hd hM hLM hdv
    have hctz : bits_TrailingZeros64.f (L : Int) = some ((Lib.ctz 64 L : Nat) : Int) := by
      have hL64 : L < 2 ^ 64 := Nat.lt_of_lt_of_le hL (Nat.pow_le_pow_right (by omega) hd)
      unfold bits_TrailingZeros64.f
      rw [if_pos (by omega), if_pos (by omega), Int.toNat_natCast]
    unfold leftN at h
    rw [if_neg h0] at h
    generalize Lib.ctz 64 L = c at *
    obtain ⟨c63, cd, fc, le, dvd, ⟨m, odd⟩, low⟩ := hs
    rw [List.map_cons, List.append_cons] at h
    have hsub : M - (L - 2 ^ c) = M - L + 2 ^ c := by omega
    have hlt : L - 2 ^ c < 2 ^ d := by omega
    obtain ⟨k, hk⟩ := ih (L - 2 ^ c) (out ++ [mk46 (c, (M - L) / 2 ^ c)]) r (by omega) hlt (by omega) (Nat.dvd_trans (Nat.pow_dvd_pow 2 (by omega)) dvd) (by rw [List.length_append, List.length_singleton]; omega) h
    rw [hsub] at hk
    have hpc := pow_lt64 c63
    refine ⟨k + 1, ?_⟩
    simp only [compact_RangeNodes.l0]
    have e1 : IntKind.u64.wrap (c : Int) = (c : Int) := wu64 (by omega) (by omega)
    rw [if_neg (by omega), hctz]
    simp only [Option.bind_some, e1, compact_NewNodeID.f]
    rw [if_pos (by omega), if_pos (by omega), shr_u64 (M - L) c rfl rfl (by omega), shl_u64 (x := 1) (y := (c : Int)) 1 c rfl rfl (by omega) (by omega), Nat.one_mul, bits_xor_u64_nat _ _ (by omega) hpc, xor_low le dvd, wu64 (by omega) (by omega)]
    rw [show ((M - L : Nat) : Int) + ((2 ^ c : Nat) : Int) = ((M - L + 2 ^ c : Nat) : Int) by push_cast; rfl]
    exact hk

theorem rangeNodes_of {b e L R M d : Nat} (hf : compact_Decompose.f (b : Int) (e : Int) = some ((L : Int), (R : Int))) (hm : Mid b e L R M d) (he : e < 18446744073709551616) (out : List S46) (ho : out.length < 800) :
    ∃ k, compact_RangeNodes.f k (b : Int) (e : Int) out = some (out ++ (nodesN M e L R).map mk46) := by
  obtain ⟨lo, hi, d64, dvd, l, r, _, _⟩ := hm
  have hl := leftN_len 64 M L
  have hr := right_run e he d R (out ++ (leftN 64 M L).map mk46) (by omega) r (by omega) (by rw [show e - R = M by omega]; exact dvd) (by
    rw [List.length_append, List.length_map]; omega)
  rw [show e - R = M by omega, ← rightN_fuel d 64 e R (by omega) (by omega) r] at hr
  obtain ⟨k, hk⟩ := left_run M d e R he (by omega) dvd (by omega) 64 L out _ (by omega) l (by omega) (by simp) (by omega) hr
  rw [show M - L = b by omega] at hk
  refine ⟨k, ?_⟩
  unfold compact_RangeNodes.f
  rw [hf]
  simp only [Option.bind_some]
  rw [hk, nodesN, List.map_append, List.append_assoc]

theorem and64 (x m : Nat) (hx : x < 18446744073709551616) (hm : m < 18446744073709551616) : Go.bits .and .u64 (x : Int) (m : Int) = ((x &&& m : Nat) : Int) := bits_and_u64_nat x m hx hm

theorem bnd_of {z u w : Nat} (h : z ≤ 1085102592571150095) (hu : z + z / 256 = u) (hw : u + u / 65536 = w) : w + w / 4294967296 < 9223372036854775808 := by omega

theorem onesCount_of (x : Nat) (hx : x < 18446744073709551616) : bits_OnesCount64.f (x : Int) = some ((pc 64 x : Nat) : Int) := by
  unfold bits_OnesCount64.f
  have d2 : (x : Int) / 2 = ((x / 2 : Nat) : Int) := by omega
  have a1 : Go.bits .and .u64 ((x : Int) / 2) 6148914691236517205 = ((x / 2 &&& 6148914691236517205 : Nat) : Int) := by
    rw [d2]; exact and64 (x / 2) 6148914691236517205 (by omega) (by omega)
  have a2 : Go.bits .and .u64 (x : Int) 6148914691236517205 = ((x &&& 6148914691236517205 : Nat) : Int) := and64 x 6148914691236517205 hx (by omega)
  have l1 : x / 2 &&& 6148914691236517205 ≤ 6148914691236517205 := Nat.and_le_right
  have l2 : x &&& 6148914691236517205 ≤ 6148914691236517205 := Nat.and_le_right
  have s1 : IntKind.u64.wrap (Go.bits .and .u64 ((x : Int) / 2) 6148914691236517205 + Go.bits .and .u64 (x : Int) 6148914691236517205) = ((y1 6148914691236517205 x : Nat) : Int) := by
    rw [a1, a2, wu64 (by omega) (by omega)]
    unfold y1
    push_cast; rfl
  rw [s1]
  have k1 : y1 6148914691236517205 x < 18446744073709551616 := by unfold y1; omega
  obtain ⟨y, hy⟩ : ∃ y, y1 6148914691236517205 x = y := ⟨_, rfl⟩
  rw [hy] at k1 ⊢
  have d4 : (y : Int) / 4 = ((y / 4 : Nat) : Int) := by omega
  have a3 : Go.bits .and .u64 ((y : Int) / 4) 3689348814741910323 = ((y / 4 &&& 3689348814741910323 : Nat) : Int) := by
    rw [d4]; exact and64 (y / 4) 3689348814741910323 (by omega) (by omega)
  have a4 : Go.bits .and .u64 (y : Int) 3689348814741910323 = ((y &&& 3689348814741910323 : Nat) : Int) := and64 y 3689348814741910323 k1 (by omega)
  have l3 : y / 4 &&& 3689348814741910323 ≤ 3689348814741910323 := Nat.and_le_right
  have l4 : y &&& 3689348814741910323 ≤ 3689348814741910323 := Nat.and_le_right
  have s2 : IntKind.u64.wrap (Go.bits .and .u64 ((y : Int) / 4) 3689348814741910323 + Go.bits .and .u64 (y : Int) 3689348814741910323) = ((y2 3689348814741910323 y : Nat) : Int) := by
    rw [a3, a4, wu64 (by omega) (by omega)]
    unfold y2
    push_cast; rfl
  rw [s2]
  have k2 : y2 3689348814741910323 y ≤ 7378697629483820646 := by unfold y2; omega
  obtain ⟨v, hv⟩ : ∃ v, y2 3689348814741910323 y = v := ⟨_, rfl⟩
  rw [hv] at k2 ⊢
  have s3 : Go.bits .and .u64 (IntKind.u64.wrap ((v : Int) / 16 + (v : Int))) 1085102592571150095 = ((y3 1085102592571150095 v : Nat) : Int) := by
    rw [wu64 (by omega) (by omega), show (v : Int) / 16 + (v : Int) = ((v / 16 + v : Nat) : Int) by omega]
    exact and64 (v / 16 + v) 1085102592571150095 (by omega) (by omega)
  rw [s3]
  have k3 : y3 1085102592571150095 v ≤ 1085102592571150095 := Nat.and_le_right
  obtain ⟨z, hz⟩ : ∃ z, y3 1085102592571150095 v = z := ⟨_, rfl⟩
  rw [hz] at k3 ⊢
  have s4 : IntKind.u64.wrap ((z : Int) + (z : Int) / 256) = ((z + z / 256 : Nat) : Int) := by rw [wu64 (by omega) (by omega)]; omega
  rw [s4]
  obtain ⟨u, hu⟩ : ∃ u, z + z / 256 = u := ⟨_, rfl⟩
  rw [hu]
  have s5 : IntKind.u64.wrap ((u : Int) + (u : Int) / 65536) = ((u + u / 65536 : Nat) : Int) := by rw [wu64 (by omega) (by omega)]; omega
  rw [s5]
  obtain ⟨w, hw⟩ : ∃ w, u + u / 65536 = w := ⟨_, rfl⟩
  rw [hw]
  have s6 : wrap64 (IntKind.u64.wrap ((w : Int) + (w : Int) / 4294967296)) = ((w + w / 4294967296 : Nat) : Int) := by rw [wu64 (by omega) (by omega), w64 (by omega) (by omega)]; omega
  rw [s6]
  have hbnd : w + w / 4294967296 < 9223372036854775808 := bnd_of k3 hu hw
  have hs := M.swar x z u w hx (by rw [← hz, ← hv, ← hy]) hu.symm hw.symm
  have n63 : (2 : Nat) ^ 63 = 9223372036854775808 := by decide
  have hb := (bits_nat .i64 63 (by decide) (fun n h0 h1 => by
    have h63 : (2 : Int) ^ 63 = 9223372036854775808 := by decide
    rw [h63] at h1
    rw [IntKind.wrap_i64]; omega) (w + w / 4294967296) 127 (by rw [n63]; exact hbnd) (by rw [n63]; decide)).1
  have hmod : (w + w / 4294967296) &&& 127 = (w + w / 4294967296) % 128 := Nat.and_two_pow_sub_one_eq_mod _ 7
  rw [hmod, hs] at hb
  exact congrArg some hb

/-- The leaves of a node. -/
theorem size_add {n m a b : Nat} (h1 : n = a) (h2 : m = b) (h3 : n ≤ 64) (h4 : m ≤ 64) : wrap64 ((a : Int) + (b : Int)) = ((n + m : Nat) : Int) := by
  subst h1 h2
  rw [w64 (by omega) (by omega)]
  push_cast; rfl

theorem lt_of_cut {b e L R X : Nat} (lo : b + L = X) (hi : X + R = e) (he : e < 18446744073709551616) : L < 18446744073709551616 ∧ R < 18446744073709551616 := by omega

theorem len128 (X e L R : Nat) : (nodesN X e L R).length ≤ 128 := by
  have h1 := leftN_len 64 X L
  have h2 := rightN_len 64 e R
  rw [nodesN, List.length_append]
  exact Nat.add_le_add h1 h2

theorem size_raw {b e L R g1 g2 : Int} (hf : compact_Decompose.f b e = some (L, R)) (h1 : bits_OnesCount64.f L = some g1) (h2 : bits_OnesCount64.f R = some g2) :
    compact_RangeSize.f b e = some (wrap64 (g1 + g2)) := by
  unfold compact_RangeSize.f
  rw [hf, Option.bind_some, h1, Option.bind_some, h2, Option.bind_some]

theorem nodesN_len {X e L R d : Nat} (hd : d ≤ 64) (hr : R < 2 ^ d) : (nodesN X e L R).length = (leftN 64 X L).length + (rightN d e R).length := by
  rw [nodesN, M.rightN_fuel d 64 e R hd (Nat.le_refl _) hr, List.length_append]

theorem size_of {b e L R X d : Nat} (hf : compact_Decompose.f (b : Int) (e : Int) = some ((L : Int), (R : Int))) (hm : Mid b e L R X d) (he : e < 18446744073709551616) :
    compact_RangeSize.f (b : Int) (e : Int) = some (((nodesN X e L R).length : Nat) : Int) := by
  have hX : L ≤ X := by have := hm.lo; omega
  have hlt := lt_of_cut hm.lo hm.hi he
  have p1 := M.leftN_pc X d hm.d64 hm.dvd 64 L (Nat.le_refl _) hm.l hX (by simp)
  have p2 := M.rightN_pc e d R hm.d64 hm.r
  have q1 := leftN_len 64 X L
  have q := Nat.le_trans (rightN_len d e R) hm.d64
  have s := size_raw hf (onesCount_of L hlt.1) (onesCount_of R hlt.2)
  rw [nodesN_len hm.d64 hm.r]
  exact s.trans (congrArg some (size_add p1 p2 q1 q))

theorem cut_of {b e L R X d : Nat} (hm : Mid b e L R X d) : M.Cut b e L R X d := ⟨hm.lo, hm.hi, hm.d64, hm.dvd, hm.l, hm.r⟩

end Go.Proofs.YtmcelgfekffinaaDoor.Pure
