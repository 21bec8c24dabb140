/- The law of ranges that are split. -/
import Derived.Test.YtmcelgfekffinaaDoorRNS
namespace Go.Proofs.YtmcelgfekffinaaDoor.Pure
open Go.RowKit Go.Proofs.YtmcelgfekffinaaDoor.Q Go.Proofs.YtmcelgfekffinaaDoorW.PrintWords Go.Proofs.YtmcelgfekffinaaDoorW.PrintLast
open Go.Proofs.YtmcelgfekffinaaDoor.M (leftN rightN nodesN leftN_len rightN_len Nodes across pc y1 y2 y3)

theorem and64 (x m : Nat) (hx : x < 18446744073709551616) (hm : m < 18446744073709551616) : Go.bits .and .u64 (x : Int) (m : Int) = ((x &&& m : Nat) : Int) := bits_and_u64_nat x m hx hm

theorem bnd_of {z u w : Nat} (h : z ≤ 1085102592571150095) (hu : z + z / 256 = u) (hw : u + u / 65536 = w) : w + w / 4294967296 < 9223372036854775808 := by omega

theorem onesCount_of (x : Nat) (hx : x < 18446744073709551616) : bits_OnesCount64.f (x : Int) = some ((pc 64 x : Nat) : Int) := by
  unfold bits_OnesCount64.f
  have d2 : (x : Int) / 2 = ((x / 2 : Nat) : Int) := by omega
  have a1 : Go.bits .and .u64 ((x : Int) / 2) 6148914691236517205 = ((x / 2 &&& 6148914691236517205 : Nat) : Int) := by
    rw [d2]; exact and64 (x / 2) 6148914691236517205 (by omega) (by omega)
  have a2 : Go.bits .and .u64 (x : Int) 6148914691236517205 = ((x &&& 6148914691236517205 : Nat) : Int) := and64 x 6148914691236517205 hx (by omega)
  have l1 : x / 2 &&& 6148914691236517205 ≤ 6148914691236517205 := Nat.and_le_right
  have l2 : x &&& 6148914691236517205 ≤ 6148914691236517205 := Nat.and_le_right
  have s1 : IntKind.u64.wrap (Go.bits .and .u64 ((x : Int) / 2) 6148914691236517205 + Go.bits .and .u64 (x : Int) 6148914691236517205) = ((y1 6148914691236517205 x : Nat) : Int) := by
    rw [a1, a2, wu64 (by omega) (by omega)]
    unfold y1
    push_cast; rfl
  rw [s1]
  have k1 : y1 6148914691236517205 x < 18446744073709551616 := by unfold y1; omega
  obtain ⟨y, hy⟩ : ∃ y, y1 6148914691236517205 x = y := ⟨_, rfl⟩
  rw [hy] at k1 ⊢
  have d4 : (y : Int) / 4 = ((y / 4 : Nat) : Int) := by omega
  have a3 : Go.bits .and .u64 ((y : Int) / 4) 3689348814741910323 = ((y / 4 &&& 3689348814741910323 : Nat) : Int) := by
    rw [d4]; exact and64 (y / 4) 3689348814741910323 (by omega) (by omega)
  have a4 : Go.bits .and .u64 (y : Int) 3689348814741910323 = ((y &&& 3689348814741910323 : Nat) : Int) := and64 y 3689348814741910323 k1 (by omega)
  have l3 : y / 4 &&& 3689348814741910323 ≤ 3689348814741910323 := Nat.and_le_right
  have l4 : y &&& 3689348814741910323 ≤ 3689348814741910323 := Nat.and_le_right
  have s2 : IntKind.u64.wrap (Go.bits .and .u64 ((y : Int) / 4) 3689348814741910323 + Go.bits .and .u64 (y : Int) 3689348814741910323) = ((y2 3689348814741910323 y : Nat) : Int) := by
    rw [a3, a4, wu64 (by omega) (by omega)]
    unfold y2
    push_cast; rfl
  rw [s2]
  have k2 : y2 3689348814741910323 y ≤ 7378697629483820646 := by unfold y2; omega
  obtain ⟨v, hv⟩ : ∃ v, y2 3689348814741910323 y = v := ⟨_, rfl⟩
  rw [hv] at k2 ⊢
  have s3 : Go.bits .and .u64 (IntKind.u64.wrap ((v : Int) / 16 + (v : Int))) 1085102592571150095 = ((y3 1085102592571150095 v : Nat) : Int) := by
    rw [wu64 (by omega) (by omega), show (v : Int) / 16 + (v : Int) = ((v / 16 + v : Nat) : Int) by omega]
    exact and64 (v / 16 + v) 1085102592571150095 (by omega) (by omega)
  rw [s3]
  have k3 : y3 1085102592571150095 v ≤ 1085102592571150095 := Nat.and_le_right
  obtain ⟨z, hz⟩ : ∃ z, y3 1085102592571150095 v = z := ⟨_, rfl⟩
  rw [hz] at k3 ⊢
  have s4 : IntKind.u64.wrap ((z : Int) + (z : Int) / 256) = ((z + z / 256 : Nat) : Int) := by rw [wu64 (by omega) (by omega)]; omega
  rw [s4]
  obtain ⟨u, hu⟩ : ∃ u, z + z / 256 = u := ⟨_, rfl⟩
  rw [hu]
  have s5 : IntKind.u64.wrap ((u : Int) + (u : Int) / 65536) = ((u + u / 65536 : Nat) : Int) := by rw [wu64 (by omega) (by omega)]; omega
  rw [s5]
  obtain ⟨w, hw⟩ : ∃ w, u + u / 65536 = w := ⟨_, rfl⟩
  rw [hw]
  have s6 : wrap64 (IntKind.u64.wrap ((w : Int) + (w : Int) / 4294967296)) = ((w + w / 4294967296 : Nat) : Int) := by rw [wu64 (by omega) (by omega), w64 (by omega) (by omega)]; omega
  rw [s6]
  have hbnd : w + w / 4294967296 < 9223372036854775808 := bnd_of k3 hu hw
  have hs := M.swar x z u w hx (by rw [← hz, ← hv, ← hy]) hu.symm hw.symm
  have n63 : (2 : Nat) ^ 63 = 9223372036854775808 := by decide
  have hb := (bits_nat .i64 63 (by decide) (fun n h0 h1 => by
    have h63 : (2 : Int) ^ 63 = 9223372036854775808 := by decide
    rw [h63] at h1
    rw [IntKind.wrap_i64]; omega) (w + w / 4294967296) 127 (by rw [n63]; exact hbnd) (by rw [n63]; decide)).1
  have hmod : (w + w / 4294967296) &&& 127 = (w + w / 4294967296) % 128 := Nat.and_two_pow_sub_one_eq_mod _ 7
  rw [hmod, hs] at hb
  exact congrArg some hb

/-- The leaves of a node. -/
theorem leaves_of {l i e : Nat} (hl : l < 64) (h : 2 ^ l * (i + 1) ≤ e) (he : e < 18446744073709551616) :
    spec_Leaves.f (l : Int) (i : Int) = some (((2 ^ l * i : Nat) : Int), ((2 ^ l * (i + 1) : Nat) : Int)) := by
  have hpos := Nat.two_pow_pos l
  have h1 : i + 1 ≤ 2 ^ l * (i + 1) := Nat.le_mul_of_pos_left _ hpos
  have h2 : 2 ^ l * i ≤ 2 ^ l * (i + 1) := Nat.mul_le_mul_left _ (by omega)
  unfold spec_Leaves.f
  rw [if_pos (by omega)]
  rw [show (i : Int) + 1 = ((i + 1 : Nat) : Int) by push_cast; rfl, wu64 (by omega) (by omega)]
  rw [shl_u64 i l rfl rfl (by rw [Nat.mul_comm]; omega) (by omega), shl_u64 (i + 1) l rfl rfl (by rw [Nat.mul_comm]; omega) (by omega)]
  rw [Nat.mul_comm i, Nat.mul_comm (i + 1)]

section
variable {b m e : Nat} {W B : List (Nat × Nat)}

/-- The second loop, and what follows it. -/
theorem both_of (hWl : W.length < 400) (hBl : B.length < 400) (sp : List (Nat × Nat))
    (hsp : sp.length ≤ 1) (hin : ∀ x, x ∈ B → x ∉ W → ∃ y, sp = [y] ∧ x.1 < y.1 ∧ x.2 / 2 ^ (y.1 - x.1) = y.2)
    (hB64 : ∀ x, x ∈ B → x.2 < 18446744073709551616) (hs64 : ∀ x, x ∈ sp → x.1 < 64) (hle : W.length ≤ B.length) (hsz : compact_RangeSize.f (b : Int) (e : Int) = some ((W.length : Nat) : Int)) (hnil : W = [] ↔ ¬ b < e) :
    ∀ (post pre : List (Nat × Nat)), B = pre ++ post → ∃ k, laws_FnRangeNodesSplit.l1 k (b : Int) (e : Int) (W.map mk27) (B.map mk27) (sp.map mk27) (B.map mk27) ((B.length : Nat) : Int) (pre.length : Int) = some true := by
  intro post
  induction post with
  | nil =>
    intro pre hpre
    rw [List.append_nil] at hpre
    subst hpre
    refine ⟨1, ?_⟩
    simp only [laws_FnRangeNodesSplit.l1, impl_RangeSize.f]
    rw [if_neg (by omega), List.length_map, List.length_map, List.length_map, if_pos (by omega), if_pos (by omega), hsz]
    simp only [Option.bind_some]
    rw [if_pos True.intro]
    congr 1
    rw [beq_iff_eq]
    by_cases hbe : b < e
    · have : W ≠ [] := fun h => (hnil.1 h) hbe
      have := List.length_pos_iff.2 this
      rw [decide_eq_true (by omega), decide_eq_true (by omega)]
    · have := hnil.2 hbe
      subst this
      rw [decide_eq_false (by simp), decide_eq_false (by omega)]
  | cons x post ih =>
    intro pre hpre
    obtain ⟨k1, h1⟩ := ih (pre ++ [x]) (by rw [hpre]; simp)
    obtain ⟨k2, h2⟩ := hasNode_all W x (by omega)
    have hl : B.length = pre.length + 1 + post.length := by rw [hpre]; simp; omega
    have hrd := rd27 pre x post
    rw [← hpre] at hrd
    refine ⟨k1 + k2 + 1, ?_⟩
    simp only [laws_FnRangeNodesSplit.l1]
    rw [hrd, if_pos (by omega), if_pos (by omega), if_pos (by rw [List.length_map]; omega)]
    have e1 : wrap64 ((pre.length : Int) + 1) = ((pre ++ [x]).length : Int) := by
      rw [w64 (by omega) (by omega), List.length_append, List.length_singleton]; omega
    rw [e1]
    have f0 : (mk27 x).f0 = (x.1 : Int) := rfl
    have f1 : (mk27 x).f1 = (x.2 : Int) := rfl
    rw [f0, f1, at_rounds (fun k => spec_HasNode.mono _ _ _ k) (Nat.le_add_left k2 k1) h2]
    simp only [Option.bind_some]
    have hrec := at_rounds (fun k => (laws_FnRangeNodesSplit.mono_l k).2.2.2 _ _ _ _ _ _ _ _) (Nat.le_add_right k1 k2) h1
    rw [hrec]
    by_cases hx : x ∈ W
    · rw [if_pos (by simpa using hx)]
    · rw [if_neg (by simpa using hx)]
      obtain ⟨y, rfl, hy1, hy2⟩ := hin x (by rw [hpre]; simp) hx
      have hy64 := hs64 y (by simp)
      have hx64 := hB64 x (by rw [hpre]; simp)
      have r0 : rd_T27 ([y].map mk27) 0 = mk27 y := rfl
      have g0 : (mk27 y).f0 = (y.1 : Int) := rfl
      have g1 : (mk27 y).f1 = (y.2 : Int) := rfl
      have e2 : IntKind.u64.wrap ((y.1 : Int) - (x.1 : Int)) = ((y.1 - x.1 : Nat) : Int) := by rw [wu64 (by omega) (by omega)]; omega
      rw [if_pos (by simp), if_pos (by simp), r0, g0, g1, if_neg (by omega), e2, if_pos (by omega), shr_u64 x.2 (y.1 - x.1) rfl rfl hx64, hy2, if_pos rfl]

/-- The first loop. -/
theorem whole_of (he : e < 18446744073709551616) (hWl : W.length < 400) (hBl : B.length < 400)
    (hW : ∀ x, x ∈ W → x.1 < 64 ∧ 2 ^ x.1 * (x.2 + 1) ≤ e) (hin : ∀ x, x ∈ W → across m x = false → x ∈ B)
    (hlast : ∃ k, laws_FnRangeNodesSplit.l1 k (b : Int) (e : Int) (W.map mk27) (B.map mk27) ((W.filter (across m)).map mk27) (B.map mk27) ((B.length : Nat) : Int) 0 = some true) :
    ∀ (post pre : List (Nat × Nat)), W = pre ++ post →
      ∃ k, laws_FnRangeNodesSplit.l0 k (b : Int) (m : Int) (e : Int) (W.map mk27) (B.map mk27) ((pre.filter (across m)).map mk27) (W.map mk27) ((W.length : Nat) : Int) (pre.length : Int) = some true := by
  intro post
  induction post with
  | nil =>
    intro pre hpre
    rw [List.append_nil] at hpre
    subst hpre
    obtain ⟨k, hk⟩ := hlast
    refine ⟨k + 1, ?_⟩
    simp only [laws_FnRangeNodesSplit.l0]
    rw [if_neg (by omega), List.length_map]
    exact hk
  | cons x post ih =>
    intro pre hpre
    obtain ⟨k1, h1⟩ := ih (pre ++ [x]) (by rw [hpre]; simp)
    obtain ⟨k2, h2⟩ := hasNode_all B x (by omega)
    have hxW : x ∈ W := by rw [hpre]; simp
    obtain ⟨x64, xe⟩ := hW x hxW
    have hl : W.length = pre.length + 1 + post.length := by rw [hpre]; simp; omega
    have hrd := rd27 pre x post
    rw [← hpre] at hrd
    refine ⟨k1 + k2 + 1 + 1, ?_⟩
    simp only [laws_FnRangeNodesSplit.l0]
    rw [hrd, if_pos (by omega), if_pos (by omega), if_pos (by rw [List.length_map]; omega)]
    have e1 : wrap64 ((pre.length : Int) + 1) = ((pre ++ [x]).length : Int) := by
      rw [w64 (by omega) (by omega), List.length_append, List.length_singleton]; omega
    have f0 : (mk27 x).f0 = (x.1 : Int) := rfl
    have f1 : (mk27 x).f1 = (x.2 : Int) := rfl
    rw [f0, f1, leaves_of x64 xe he]
    simp only [Option.bind_some, laws_FnRangeNodesSplit.j2]
    rw [e1, at_rounds (fun k => spec_HasNode.mono _ _ _ k) (Nat.le_add_left k2 k1) h2]
    simp only [Option.bind_some]
    have hfl : (pre.filter (across m)).length ≤ pre.length := List.length_filter_le ..
    have hfil : (pre ++ [x]).filter (across m) = pre.filter (across m) ++ (if across m x = true then [x] else []) := by
      rw [List.filter_append, List.filter_cons]
      simp
    rw [hfil] at h1
    have hrec := at_rounds (fun k => (laws_FnRangeNodesSplit.mono_l k).2.1 _ _ _ _ _ _ _ _ _) (Nat.le_add_right k1 k2) h1
    cases hac : across m x
    · rw [hac] at hrec
      simp only [Bool.false_eq_true, if_false, List.append_nil] at hrec
      have hxB := hin x hxW hac
      unfold across at hac
      rw [Bool.and_eq_false_iff, decide_eq_false_iff_not, decide_eq_false_iff_not] at hac
      rw [hrec]
      rw [if_pos (show decide (x ∈ B) = true by simpa using hxB)]
      by_cases hlt : ((2 ^ x.1 * x.2 : Nat) : Int) < (m : Int)
      · rw [if_pos hlt, if_neg]
        rw [decide_eq_true_eq]
        omega
      · rw [if_neg hlt, if_neg (by simp)]
    · rw [hac] at hrec
      simp only [if_true, List.map_append] at hrec
      unfold across at hac
      rw [Bool.and_eq_true, decide_eq_true_eq, decide_eq_true_eq] at hac
      rw [if_pos (by omega), if_pos (by rw [decide_eq_true_eq]; omega), if_pos (by rw [List.length_map]; omega)]
      exact hrec
end

theorem size_add {n m a b : Nat} (h1 : n = a) (h2 : m = b) (h3 : n ≤ 64) (h4 : m ≤ 64) : wrap64 ((a : Int) + (b : Int)) = ((n + m : Nat) : Int) := by
  subst h1 h2
  rw [w64 (by omega) (by omega)]
  push_cast; rfl

theorem lt_of_cut {b e L R X : Nat} (lo : b + L = X) (hi : X + R = e) (he : e < 18446744073709551616) : L < 18446744073709551616 ∧ R < 18446744073709551616 := by omega

theorem len128 (X e L R : Nat) : (nodesN X e L R).length ≤ 128 := by
  have h1 := leftN_len 64 X L
  have h2 := rightN_len 64 e R
  rw [nodesN, List.length_append]
  exact Nat.add_le_add h1 h2

theorem size_raw {b e L R g1 g2 : Int} (hf : compact_Decompose.f b e = some (L, R)) (h1 : bits_OnesCount64.f L = some g1) (h2 : bits_OnesCount64.f R = some g2) :
    compact_RangeSize.f b e = some (wrap64 (g1 + g2)) := by
  unfold compact_RangeSize.f
  rw [hf, Option.bind_some, h1, Option.bind_some, h2, Option.bind_some]

theorem nodesN_len {X e L R d : Nat} (hd : d ≤ 64) (hr : R < 2 ^ d) : (nodesN X e L R).length = (leftN 64 X L).length + (rightN d e R).length := by
  rw [nodesN, M.rightN_fuel d 64 e R hd (Nat.le_refl _) hr, List.length_append]

theorem size_of {b e L R X d : Nat} (hf : compact_Decompose.f (b : Int) (e : Int) = some ((L : Int), (R : Int))) (hm : Mid b e L R X d) (he : e < 18446744073709551616) :
    compact_RangeSize.f (b : Int) (e : Int) = some (((nodesN X e L R).length : Nat) : Int) := by
  have hX : L ≤ X := by have := hm.lo; omega
  have hlt := lt_of_cut hm.lo hm.hi he
  have p1 := M.leftN_pc X d hm.d64 hm.dvd 64 L (Nat.le_refl _) hm.l hX (by simp)
  have p2 := M.rightN_pc e d R hm.d64 hm.r
  have q1 := leftN_len 64 X L
  have q := Nat.le_trans (rightN_len d e R) hm.d64
  have s := size_raw hf (onesCount_of L hlt.1) (onesCount_of R hlt.2)
  rw [nodesN_len hm.d64 hm.r]
  exact s.trans (congrArg some (size_add p1 p2 q1 q))

theorem cut_of {b e L R X d : Nat} (hm : Mid b e L R X d) : M.Cut b e L R X d := ⟨hm.lo, hm.hi, hm.d64, hm.dvd, hm.l, hm.r⟩

theorem FnRangeNodesSplit : laws_FnRangeNodesSplit.Pure := by
  intro a0 a1 a2 w0 w1 w2
  have b0 := bounds_u64 w0
  have b1 := bounds_u64 w1
  have b2 := bounds_u64 w2
  obtain ⟨b, rfl⟩ := Int.eq_ofNat_of_zero_le b0.1
  obtain ⟨m, rfl⟩ := Int.eq_ofNat_of_zero_le b1.1
  obtain ⟨e, rfl⟩ := Int.eq_ofNat_of_zero_le b2.1
  by_cases hbm : (b : Int) > (m : Int)
  · exact ⟨1, by unfold laws_FnRangeNodesSplit.f; rw [if_pos hbm]; simp only [laws_FnRangeNodesSplit.j0]; rw [if_pos True.intro]⟩
  by_cases hme : (m : Int) > (e : Int)
  · exact ⟨1, by unfold laws_FnRangeNodesSplit.f; rw [if_neg hbm, decide_eq_true hme]; simp only [laws_FnRangeNodesSplit.j0]; rw [if_pos True.intro]⟩
  have he : e < 18446744073709551616 := by omega
  obtain ⟨L, R, X, d, hf, hm⟩ := decompose_of b e (by omega) (by omega)
  obtain ⟨L1, R1, X1, d1, hf1, hm1⟩ := decompose_of b m (by omega) (by omega)
  obtain ⟨L2, R2, X2, d2, hf2, hm2⟩ := decompose_of m e (by omega) (by omega)
  obtain ⟨k, hk⟩ := implNodes_of hf hm he [] (by simp)
  obtain ⟨k1, hk1⟩ := implNodes_of hf1 hm1 (by omega) [] (by simp)
  have nW := M.nodes_cut (cut_of hm)
  have nA := M.nodes_cut (cut_of hm1)
  have nC := M.nodes_cut (cut_of hm2)
  have lW := len128 X e L R
  have lA := len128 X1 m L1 R1
  have lC := len128 X2 e L2 R2
  have hsz := size_of hf hm he
  generalize nodesN X e L R = W at *
  generalize nodesN X1 m L1 R1 = A at *
  obtain ⟨k2, hk2⟩ := implNodes_of hf2 hm2 he A (by omega)
  generalize nodesN X2 e L2 R2 = C at *
  have hmm : b ≤ m ∧ m ≤ e := ⟨by omega, by omega⟩
  have hmxe : ∀ {b e : Nat} {W : List (Nat × Nat)}, Nodes b e W → ∀ x, x ∈ W → x.1 < 64 ∧ 2 ^ x.1 * (x.2 + 1) ≤ e := fun hn x hx => ⟨(hn.mx x hx).2, (hn.mx x hx).1.1.2⟩
  have hsplen : (W.filter (across m)).length ≤ 1 := by
    rcases M.across_list (m := m) nW with h | ⟨y, h⟩ <;> rw [h] <;> simp
  have hlast := both_of (b := b) (e := e) (W := W) (B := A ++ C) (by omega) (by rw [List.length_append]; omega) (W.filter (across m)) hsplen (by
      intro x hx hxn
      obtain ⟨y, y1, y2, y3, y4⟩ := M.split_both hmm nW nA nC hx hxn
      refine ⟨y, ?_, y3, y4⟩
      have hy : y ∈ W.filter (across m) := List.mem_filter.2 ⟨y1, y2⟩
      rcases M.across_list (m := m) nW with h | ⟨z, h⟩
      · rw [h] at hy; cases hy
      · rw [h] at hy ⊢
        rw [List.mem_singleton] at hy
        rw [hy]) (by
      intro x hx
      have : 2 ^ x.1 * (x.2 + 1) ≤ e := by
        rw [List.mem_append] at hx
        rcases hx with hx | hx
        · exact Nat.le_trans (hmxe nA x hx).2 (by omega)
        · exact (hmxe nC x hx).2
      have h1 : x.2 + 1 ≤ 2 ^ x.1 * (x.2 + 1) := Nat.le_mul_of_pos_left _ (Nat.two_pow_pos x.1)
      omega) (fun x hx => (hmxe nW x (List.mem_filter.1 hx).1).1) (M.split_len hmm nW nA nC) hsz nW.nil (A ++ C) [] (by simp)
  have hfirst := whole_of (b := b) (m := m) (e := e) (W := W) (B := A ++ C) he (by omega) (by rw [List.length_append]; omega) (hmxe nW) (fun x hx hn => M.split_whole hmm nW nA nC hx hn) (by simpa using hlast) W [] (by simp)
  obtain ⟨k3, hk3⟩ := hfirst
  refine ⟨k + k1 + k2 + k3 + 1, ?_⟩
  unfold laws_FnRangeNodesSplit.f
  rw [if_neg hbm, decide_eq_false hme]
  simp only [laws_FnRangeNodesSplit.j0]
  rw [if_neg (by simp)]
  simp only [List.map_nil, List.nil_append] at hk hk1
  rw [at_rounds (fun k => impl_RangeNodes.mono _ _ _ k) (show k ≤ k + k1 + k2 + k3 by omega) hk]
  simp only [Option.bind_some]
  rw [at_rounds (fun k => impl_RangeNodes.mono _ _ _ k) (show k1 ≤ k + k1 + k2 + k3 by omega) hk1]
  simp only [Option.bind_some]
  rw [at_rounds (fun k => impl_RangeNodes.mono _ _ _ k) (show k2 ≤ k + k1 + k2 + k3 by omega) hk2]
  simp only [Option.bind_some]
  have hk4 := at_rounds (fun k => (laws_FnRangeNodesSplit.mono_l k).2.1 _ _ _ _ _ _ _ _ _) (show k3 ≤ k + k1 + k2 + k3 by omega) hk3
  rw [List.length_map]
  simpa using hk4

end Go.Proofs.YtmcelgfekffinaaDoor.Pure
