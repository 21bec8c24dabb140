/- FnRangeGrows, all ways joined: plain. -/
import Derived.Test.YtfhcpniibiobgaaDoorJe
import Derived.Test.YtfhcpniibiobgaaDoorJp
import Derived.Test.YtfhcpniibiobgaaDoorJr
import Derived.Test.YtfhcpniibiobgaaDoorLg
namespace Go.Proofs.YtfhcpniibiobgaaDoor.Pure
open Go.RowKit Go.Proofs.YtfhcpniibiobgaaDoorW.PrintWords Go.Proofs.YtfhcpniibiobgaaDoorW.PrintMore Go.Proofs.YtfhcpniibiobgaaDoorW.PrintLast
open Hs (CB CL)
open Go.Proofs.YtfhcpniibiobgaaDoor.M (IsN isN_uniq isN_cut isN_ex isN_one isN_same In Mx Join pc lefts rights lefts_at lefts_len rights_len chain_mem nodesN in_mono div_lo div_hi)
open Qf (Vis visA visL MStep mgO RgOk)

theorem nodes_up (b e : Int) (l : List Qf.S52) (k : Nat) (h : Qf.spec_Nodes.f k b e = some l) : ∀ d, Qf.spec_Nodes.f (k + d) b e = some l
  | 0 => h
  | d + 1 => Qf.spec_Nodes.mono b e (k + d) l (nodes_up b e l k h d)
theorem rights_nil {q low : Nat} : ∀ n, rights q low n = [] → ∀ i, i < n → q / 2 ^ (low + i) % 2 = 1
  | 0, _, i, hi => by omega
  | n + 1, h, i, hi => by
    rw [rights] at h
    split at h
    · by_cases e : i = n
      · subst e
        assumption
      · exact rights_nil n h i (by omega)
    · simp at h
theorem nil_rights {q low : Nat} : ∀ n, (∀ i, i < n → q / 2 ^ (low + i) % 2 = 1) → rights q low n = []
  | 0, _ => rfl
  | n + 1, h => by
    rw [rights, if_pos (h n (by omega))]
    exact nil_rights n fun i hi => h i (by omega)
theorem lefts_ones {q low n : Nat} (h : ∀ i, i < n → q / 2 ^ (low + i) % 2 = 1) : (lefts q low n).length = n := by
  have h1 := rights_len (q := q) (low := low) n
  rw [nil_rights n h] at h1
  rw [lefts_len]
  simpa using h1
/-- One leaf more: which nodes are put together. -/
theorem leaf_step {b e : Nat} (hbe : b ≤ e) (he : e + 1 < 18446744073709551616) {W W' : List (Nat × Nat)} (hW : IsN b e W) (hW' : IsN b (e + 1) W') :
    ∃ (low hgh n : Nat) (X : List (Nat × Nat)), Qf.compact_getMergePath.f (b : Int) (e : Int) ((e + 1 : Nat) : Int) = some ((low : Int), (hgh : Int)) ∧ low ≤ 64 ∧ hgh ≤ 63 ∧ ((hgh < low ∧ n = 0) ∨ low + n = hgh) ∧ (0 < n → low = 0) ∧ W = X ++ lefts e low n ∧ W' = X ++ [(n, e / 2 ^ n)] ∧ ∀ i, i < n → e / 2 ^ (low + i) % 2 = 1 := by
  have h1 : IsN e (e + 1) [(0, e / 2 ^ 0)] := isN_one (t := 0) (by simp) (by simp)
  obtain ⟨low, hgh, n, X, Y, s, t, hmp, hl, hh, hc, hj⟩ := merge_path hbe (Nat.lt_succ_self e) he (by omega) hW h1 hW'
  have hw2 := hj.w2
  injection hw2 with hs hr
  have hr2 := List.append_eq_nil_iff.1 hr.symm
  have hbits := rights_nil n hr2.1
  have e0 : e / 2 ^ 0 = e := by simp
  rw [e0] at hs
  have w1 := hj.w1
  have w := hj.w
  rw [hr2.2] at w
  rcases Nat.eq_zero_or_pos n with hn | hn
  · subst hn
    have ht := hj.low0 rfl
    refine ⟨low, hgh, 0, X, hmp, hl, hh, hc, fun h => by omega, w1, ?_, hbits⟩
    rw [w, ht, ← hs, e0]
  · obtain ⟨hs2, ht⟩ := hj.top hn
    have hlow : low = 0 := by
      have := hs.trans hs2
      injection this with this _
      exact this.symm
    subst hlow
    refine ⟨0, hgh, n, X, hmp, hl, hh, hc, fun _ => rfl, w1, ?_, hbits⟩
    rw [w, ht, Nat.zero_add]
theorem odd_facts {x : Nat} (h : x % 2 = 1) : 2 * (x / 2) = x - 1 ∧ x - 1 + 1 = x := by omega
section
variable {a0 a1 a2 a3 a4 a5 : Int}
/-- The hashes on the way up. -/
theorem mg_up (V : Nat × Nat → List Int) (hV : ∀ k i, V (k + 1, i) = hcF a0 a2 a5 (V (k, 2 * i)) (V (k, 2 * i + 1))) {e n : Nat} {X : List (Nat × Nat)} (hb : ∀ i, i < n → e / 2 ^ i % 2 = 1) (h1 : ∀ k, k ≤ n → (V (k, e / 2 ^ k)).length ≤ 1000000000) (h2 : ∀ k, k < n → (V (k, e / 2 ^ k - 1)).length ≤ 1000000000) : ∀ j, j ≤ n →
    mgO a0 a1 a2 a3 a4 a5 ((X ++ lefts e 0 n).map V) j (V (0, e)) = some (V (j, e / 2 ^ j))
  | 0, _ => by
    rw [Nat.pow_zero, Nat.div_one]
    rfl
  | j + 1, hj => by
    have ih := mg_up V hV (X := X) hb h1 h2 j (by omega)
    have hbj := hb j (by omega)
    obtain ⟨A, hA⟩ := lefts_at (q := e) (low := 0) n j (by omega) (by rw [Nat.zero_add]; exact hbj)
    rw [Nat.zero_add] at hA
    have hlj : (lefts e 0 j).length = j := lefts_ones fun i hi => by rw [Nat.zero_add]; exact hb i (by omega)
    have hg : ((X ++ lefts e 0 n).map V).getD (((X ++ lefts e 0 n).map V).length - (j + 1)) [] = V (j, e / 2 ^ j - 1) := by
      rw [hA, ← List.append_assoc, List.map_append, List.map_cons, List.length_append, List.length_cons, List.length_map, List.length_map, hlj, List.getD_eq_getElem?_getD, List.getElem?_append_right (by rw [List.length_map]; omega), List.length_map, show (X ++ A).length + (j + 1) - (j + 1) - (X ++ A).length = 0 by omega]
      rfl
    have hu : e / 2 ^ (j + 1) = e / 2 ^ j / 2 := M.up_half _ _
    have hv := hV j (e / 2 ^ (j + 1))
    rw [hu, (odd_facts hbj).1, (odd_facts hbj).2, ← hu] at hv
    have l1 := h1 (j + 1) (by omega)
    rw [mgO, ih, Option.bind_some, hg, toyHC _ _ _ _ _ _ _ _ (by have := h2 j (by omega); omega) (by have := h1 j (by omega); omega), Option.bind_some, ← hv, if_pos (by omega)]
/-- What is shown of leaf e. -/
def vN (V : Nat × Nat → List Int) (e n : Nat) : List Vis := (List.range (n + 1)).map fun (t : Nat) => ((t : Int), ((e / 2 ^ t : Nat) : Int), V (t, e / 2 ^ t))
theorem vN_len (V : Nat × Nat → List Int) (e n : Nat) : (vN V e n).length = n + 1 := by simp [vN]
theorem vN_at (V : Nat × Nat → List Int) (e n t : Nat) (h : t ≤ n) : (vN V e n).getD t (0, 0, []) = ((t : Int), ((e / 2 ^ t : Nat) : Int), V (t, e / 2 ^ t)) := by
  rw [List.getD_eq_getElem?_getD, List.getElem?_eq_getElem (by rw [vN_len]; omega), Option.getD_some]
  simp [vN]
theorem vis_eq (V : Nat × Nat → List Int) {e n : Nat} {l : List (List Int)} {s : List Int} (hs : s = V (0, e)) (h : ∀ j, j ≤ n → mgO a0 a1 a2 a3 a4 a5 l j s = some (V (j, e / 2 ^ j))) : (0, (e : Int), s) :: visL a0 a1 a2 a3 a4 a5 0 e l s n = vN V e n := by
  induction n with
  | zero =>
    rw [visL, hs]
    simp [vN]
  | succ n ih =>
    have h2 := ih fun j hj => h j (by omega)
    unfold vN at h2 ⊢
    rw [visL, ← List.cons_append, h2, List.range_succ (n := n + 1), List.map_append, h (n + 1) (Nat.le_refl _), Nat.zero_add]
    rfl
theorem ones_all {x n : Nat} (hx : x < 18446744073709551616) (hn : n ≤ 63) (hp : pc n x = n) : Qf.bits_OnesCount64.f (Go.bits .and .u64 (x : Int) (IntKind.u64.wrap (IntKind.u64.wrap ((2 : Int) ^ n) - 1))) = some (n : Int) := by
  have hp2 := Nat.two_pow_pos n
  have hlt : 2 ^ n < 18446744073709551616 := Nat.lt_of_le_of_lt (Nat.pow_le_pow_right (by omega) hn) (by omega)
  have e1 : IntKind.u64.wrap ((2 : Int) ^ n) = ((2 ^ n : Nat) : Int) := by
    rw [show ((2 : Int) ^ n) = ((2 ^ n : Nat) : Int) by push_cast; rfl]
    exact wu _ (by omega)
  have e2 : IntKind.u64.wrap (((2 ^ n : Nat) : Int) - 1) = ((2 ^ n - 1 : Nat) : Int) := by
    rw [wu _ (by omega)]
    omega
  have hm := Nat.mod_lt x hp2
  have h64 := M.pc_add n (64 - n) (x % 2 ^ n)
  rw [Nat.add_sub_cancel' (by omega), Nat.div_eq_of_lt hm, M.pc_zero, Nat.add_zero, M.pc_mod, hp] at h64
  rw [e1, e2, bits_and_u64_nat x (2 ^ n - 1) hx (by omega), Nat.and_two_pow_sub_one_eq_mod, onesCount_of _ (by omega), h64]
theorem ones_none {x : Nat} (hx : x < 18446744073709551616) : Qf.bits_OnesCount64.f (Go.bits .and .u64 (x : Int) 0) = some 0 := by
  rw [show (0 : Int) = ((0 : Nat) : Int) from rfl, bits_and_u64_nat x 0 hx (by omega), Nat.and_zero, onesCount_of 0 (by omega), M.pc_zero]
/-- One leaf more, in hashes. -/
theorem mstep_leaf (V : Nat × Nat → List Int) (hV : ∀ k i, V (k + 1, i) = hcF a0 a2 a5 (V (k, 2 * i)) (V (k, 2 * i + 1))) {b e : Nat} (hbe : b ≤ e) (he : e + 1 < 18446744073709551616) {W W' : List (Nat × Nat)} (hW : IsN b e W) (hW' : IsN b (e + 1) W') (hlen : ∀ k i, b ≤ 2 ^ k * i → 2 ^ k * (i + 1) ≤ e + 1 → (V (k, i)).length ≤ 1000000000) :
    ∃ n, MStep a0 a1 a2 a3 a4 a5 b e (W.map V) (V (0, e)) (W'.map V) (vN V e n) ∧ Mx b (e + 1) n (e / 2 ^ n) ∧ W'.length + n = W.length + 1 := by
  obtain ⟨low, hgh, n, X, hmp, hl, hh, hc, h0, hw, hw', hbits⟩ := leaf_step hbe he hW hW'
  have hq64 : e / 2 ^ low < 18446744073709551616 := Nat.lt_of_le_of_lt (Nat.div_le_self _ _) (by omega)
  have hdv : ((e : Int) / 2 ^ low) = ((e / 2 ^ low : Nat) : Int) := by push_cast; rfl
  have hmx : Mx b (e + 1) n (e / 2 ^ n) := hW'.mx (n, e / 2 ^ n) (by rw [hw']; simp)
  refine ⟨n, ?_, hmx, by rw [hw', hw, List.length_append, List.length_append, lefts_ones hbits]; simp; omega⟩
  have hbn : ∀ i, i < n → e / 2 ^ i % 2 = 1 := fun i hi => by
    have := hbits i hi
    rwa [h0 (by omega), Nat.zero_add] at this
  have hlow : ∀ k, k ≤ n → b ≤ 2 ^ k * (e / 2 ^ k) ∧ 2 ^ k * (e / 2 ^ k + 1) ≤ e + 1 := fun k hk => in_mono hk hmx.1
  have hmg : ∀ j, j ≤ n → mgO a0 a1 a2 a3 a4 a5 (W.map V) j (V (0, e)) = some (V (j, e / 2 ^ j)) := by
    rcases Nat.eq_zero_or_pos n with hn | hn
    · subst hn
      intro j hj
      obtain rfl : j = 0 := by omega
      rw [Nat.pow_zero, Nat.div_one]
      rfl
    · have hl0 := h0 hn
      subst hl0
      rw [hw]
      refine mg_up V hV hbn (fun k hk => hlen _ _ (hlow k hk).1 (hlow k hk).2) (fun k hk => ?_)
      have o1 := hbn k hk
      have o2 := hlow (k + 1) (by omega)
      have o3 := (hlow k (by omega)).2
      have o4 := Nat.two_pow_pos k
      rw [M.up_half, Nat.pow_succ, Nat.mul_assoc, (odd_facts o1).1] at o2
      refine hlen _ _ o2.1 ?_
      rw [(odd_facts o1).2]
      rw [Nat.mul_add] at o3
      omega
  have hvis := vis_eq (a0 := a0) (a1 := a1) (a2 := a2) (a3 := a3) (a4 := a4) (a5 := a5) V rfl hmg
  refine ⟨low, hgh, hmp, ?_⟩
  rcases hc with ⟨c1, c2⟩ | c1
  · subst c2
    refine .inl ⟨c1, hl, by rw [hdv]; exact ones_none hq64, ?_, ?_⟩
    · rw [hw', hw, show lefts e low 0 = [] from rfl, List.append_nil, List.map_append, Nat.pow_zero, Nat.div_one]
      rfl
    · rw [← hvis]
      rfl
  · have hln := lefts_ones hbits
    have hpc : pc n (e / 2 ^ low) = n := by rw [← lefts_len]; exact hln
    refine .inr ⟨n, V (n, e / 2 ^ n), c1, by omega, by rw [hw, List.length_map, List.length_append, hln]; omega, by rw [hdv]; exact ones_all hq64 (by omega) hpc, fun i hi => ?_, hmg n (Nat.le_refl _), ?_, ?_⟩
    · rw [Nat.div_div_eq_div_mul, ← Nat.pow_add]
      exact hbits i hi
    · rw [hw', hw, List.map_append, List.map_append, List.length_append, List.length_map, List.length_map, hln, Nat.add_sub_cancel, List.take_left' (by rw [List.length_map])]
      rfl
    · rcases Nat.eq_zero_or_pos n with hn | hn
      · subst hn
        rw [← hvis]
        rfl
      · have hl0 := h0 hn
        subst hl0
        rw [← hvis, Nat.pow_zero, Nat.div_one]
/-- The leaf hashes by number. -/
abbrev gB (b : Nat) (M : List (List Int)) (i : Nat) : List Int := M.getD (i - b) []
abbrev VB (a0 a2 a5 : Int) (b : Nat) (M : List (List Int)) (x : Nat × Nat) : List Int := nd a0 a2 a5 (gB b M) x.1 x.2
theorem getD_le {M : List (List Int)} (hM : ∀ x ∈ M, x.length ≤ 5000) (i : Nat) : (M.getD i []).length ≤ 5010 := by
  rw [List.getD_eq_getElem?_getD]
  rcases h : M[i]? with _ | y
  · simp
  · have := hM y (List.mem_of_getElem? h)
    show y.length ≤ 5010
    omega
theorem pow_300 {t : Nat} (h : 2 ^ t ≤ 300) : t ≤ 8 := by
  rcases Nat.lt_or_ge t 9 with h1 | h1
  · omega
  · have := Nat.pow_le_pow_right (n := 2) (by omega) h1
    omega
theorem VB_len {b : Nat} {M : List (List Int)} (hM : ∀ x ∈ M, x.length ≤ 5000) {k i : Nat} (h : 2 ^ k ≤ 300) : (VB a0 a2 a5 b M (k, i)).length ≤ 2000000 := by
  have h1 := nd_mt (a0 := a0) (a2 := a2) (a5 := a5) (g := gB b M) k i k (Nat.le_refl _)
  have hp := Nat.two_pow_pos k
  have e1 : (i + 1) * 2 ^ k = i * 2 ^ k + 2 ^ k := Nat.succ_mul _ _
  have h2 := mt_len (a0 := a0) (a2 := a2) (a5 := a5) (g := gB b M) (fun i => getD_le hM _) k (i * 2 ^ k) ((i + 1) * 2 ^ k) (by omega) (by omega)
  rw [← h1] at h2
  show (nd a0 a2 a5 (gB b M) k i).length ≤ 2000000
  have h3 : ((i + 1) * 2 ^ k - i * 2 ^ k) * 5020 ≤ 300 * 5020 := Nat.mul_le_mul_right _ (by omega)
  omega
/-- The reference's hash of the leaves below a node. -/
theorem root_node {b : Nat} {M : List (List Int)} (hM : ∀ x ∈ M, x.length ≤ 5000) (h300 : M.length ≤ 300) {k i : Nat} (h1 : b ≤ 2 ^ k * i) (h2 : 2 ^ k * (i + 1) ≤ b + M.length) (K : Nat) (hK : 4000010 ≤ K) :
    Qf.spec_Root.f K a0 a1 a2 a3 a4 a5 ((M.take (2 ^ k * (i + 1) - b)).drop (2 ^ k * i - b)) = some (VB a0 a2 a5 b M (k, i)) := by
  have hp := Nat.two_pow_pos k
  have e1 : 2 ^ k * (i + 1) = 2 ^ k * i + 2 ^ k := by rw [Nat.mul_add, Nat.mul_one]
  have hl : ((M.take (2 ^ k * (i + 1) - b)).drop (2 ^ k * i - b)).length = 2 ^ k := by
    rw [List.length_drop, List.length_take]
    omega
  have hk9 : k ≤ 9 := by have := pow_300 (t := k) (by omega); omega
  have hpw : 2 ^ k ≤ 2 ^ 9 := Nat.pow_le_pow_right (by omega) hk9
  have hr := spec_root (a0 := a0) (a1 := a1) (a2 := a2) (a3 := a3) (a4 := a4) (a5 := a5) M 9 K ((M.take (2 ^ k * (i + 1) - b)).drop (2 ^ k * i - b)) (2 ^ k * i - b) (by rw [hl]; exact hp) (by rw [hl]; exact hpw) (by omega) (by omega) (fun i => getD_le hM i) (fun q hq => by
    rw [hl] at hq
    rw [List.getD_eq_getElem?_getD, List.getD_eq_getElem?_getD, List.getElem?_drop, List.getElem?_take_of_lt (by omega)])
  rw [hr, hl]
  refine congrArg some ?_
  have hn := nd_mt (a0 := a0) (a2 := a2) (a5 := a5) (g := gB b M) k i 9 hk9
  show _ = nd a0 a2 a5 (gB b M) k i
  have c1 : i * 2 ^ k = 2 ^ k * i := Nat.mul_comm _ _
  have c2 : (i + 1) * 2 ^ k = 2 ^ k * i + 2 ^ k := by rw [Nat.mul_comm, e1]
  rw [hn, c1, c2]
  refine mt_shift 9 9 _ _ _ _ (by omega) (by omega) (by omega) (by omega) (by omega) (fun q _ => ?_)
  show M.getD (2 ^ k * i - b + q) [] = M.getD (2 ^ k * i + q - b) []
  rw [show 2 ^ k * i - b + q = 2 ^ k * i + q - b by omega]
/-- The leaves below a node, as the reference reckons them. -/
theorem leaves_of {k i : Nat} (hk : k ≤ 63) (h : 2 ^ k * (i + 1) < 18446744073709551616) : Qf.spec_Leaves.f (k : Int) (i : Int) = some (((2 ^ k * i : Nat) : Int), ((2 ^ k * (i + 1) : Nat) : Int)) := by
  have hp := Nat.two_pow_pos k
  have e1 : 2 ^ k * (i + 1) = 2 ^ k * i + 2 ^ k := by rw [Nat.mul_add, Nat.mul_one]
  have hi : i + 1 ≤ 2 ^ k * (i + 1) := Nat.le_mul_of_pos_left _ hp
  unfold Qf.spec_Leaves.f
  rw [if_pos (by omega), wu _ (by omega)]
  unfold shl
  rw [Int.toNat_natCast, Nat.min_eq_left (by show k ≤ 64; omega)]
  have p1 : ((2 : Int) ^ k) = ((2 ^ k : Nat) : Int) := by push_cast; rfl
  rw [p1, show ((i : Int) * ((2 ^ k : Nat) : Int)) = ((2 ^ k * i : Nat) : Int) by rw [← Int.natCast_mul, Nat.mul_comm], show (((i : Int) + 1) * ((2 ^ k : Nat) : Int)) = ((2 ^ k * (i + 1) : Nat) : Int) by rw [show ((i : Int) + 1) = ((i + 1 : Nat) : Int) by omega, ← Int.natCast_mul, Nat.mul_comm], wu _ (by omega), wu _ (by omega)]
/-- Where the way up ends. -/
theorem leaves_stop {b e n : Nat} (he : e + 1 < 18446744073709551616) (hm : Mx b (e + 1) n (e / 2 ^ n)) : n ≤ 63 ∧ ∃ p q : Nat, Qf.spec_Leaves.f ((n + 1 : Nat) : Int) ((e / 2 ^ (n + 1) : Nat) : Int) = some ((p : Int), (q : Int)) ∧ (n + 1 = 64 ∨ (n + 1 < 64 ∧ (p < b ∨ (b ≤ p ∧ q ≠ e + 1)))) := by
  have hp := Nat.two_pow_pos n
  have h1 := hm.1.2
  have hn : n ≤ 63 := by
    have h2 := Nat.le_mul_of_pos_right (2 ^ n) (Nat.succ_pos (e / 2 ^ n))
    have h3 : 2 ^ n < 2 ^ 64 := Nat.lt_of_le_of_lt (Nat.le_trans h2 h1) (Nat.lt_of_lt_of_eq he (by decide))
    have := (Nat.pow_lt_pow_iff_right (show 1 < 2 by decide)).1 h3
    omega
  refine ⟨hn, ?_⟩
  have hno := hm.2
  rw [← M.half_div] at hno
  generalize hi : e / 2 ^ (n + 1) = i at hno ⊢
  have hlo : 2 ^ (n + 1) * i ≤ e := by rw [← hi]; exact div_lo e (n + 1)
  have hhi : e < 2 ^ (n + 1) * (i + 1) := by rw [← hi]; exact div_hi e (n + 1)
  have e1 : 2 ^ (n + 1) * (i + 1) = 2 ^ (n + 1) * i + 2 ^ (n + 1) := by rw [Nat.mul_add, Nat.mul_one]
  have hi64 : i ≤ e := by
    have : i ≤ 2 ^ (n + 1) * i := Nat.le_mul_of_pos_left _ (Nat.two_pow_pos _)
    omega
  have p1 : ((2 : Int) ^ (n + 1)) = ((2 ^ (n + 1) : Nat) : Int) := by push_cast; rfl
  have hsh : ∀ x : Nat, shl .u64 (x : Int) ((n + 1 : Nat) : Int) = ((x * 2 ^ (n + 1) % 18446744073709551616 : Nat) : Int) := fun x => by
    unfold shl
    rw [Int.toNat_natCast, Nat.min_eq_left (by show n + 1 ≤ 64; omega), p1, ← Int.natCast_mul]
    show (((x * 2 ^ (n + 1) : Nat) : Int)) % 18446744073709551616 = _
    omega
  refine ⟨i * 2 ^ (n + 1) % 18446744073709551616, (i + 1) * 2 ^ (n + 1) % 18446744073709551616, ?_, ?_⟩
  · unfold Qf.spec_Leaves.f
    rw [if_pos (by omega), wu _ (by omega), hsh, show ((i : Int) + 1) = ((i + 1 : Nat) : Int) by omega, hsh]
  · rcases Nat.lt_or_ge (n + 1) 64 with hlt | hge
    · refine .inr ⟨hlt, ?_⟩
      rw [Nat.mul_comm i, Nat.mul_comm (i + 1), Nat.mod_eq_of_lt (show 2 ^ (n + 1) * i < 18446744073709551616 by omega)]
      rcases Nat.lt_or_ge (2 ^ (n + 1) * i) b with h3 | h3
      · exact .inl h3
      · refine .inr ⟨h3, fun hq => hno ⟨h3, ?_⟩⟩
        have h4 := Nat.mod_le (2 ^ (n + 1) * (i + 1)) 18446744073709551616
        have hp1 : 2 ^ (n + 1) ≤ 2 ^ 63 := Nat.pow_le_pow_right (by omega) (by omega)
        rcases Nat.lt_or_ge (2 ^ (n + 1) * (i + 1)) 18446744073709551616 with h5 | h5
        · rw [Nat.mod_eq_of_lt h5] at hq
          omega
        · exfalso
          have h6 : 2 ^ (n + 1) * (i + 1) % 18446744073709551616 = 2 ^ (n + 1) * (i + 1) - 18446744073709551616 := by omega
          omega
    · exact .inl (by omega)
/-- The reference's range. -/
theorem range_go {b : Nat} {M : List (List Int)} (hM : ∀ x ∈ M, x.length ≤ 5000) (h300 : M.length ≤ 300) (he : b + M.length < 18446744073709551616) {W : List (Nat × Nat)} (hW : IsN b (b + M.length) W) (hWl : W.length ≤ 128) : ∀ (m j k : Nat), j + m = W.length → m + 4000020 ≤ k →
    Qf.spec_RangeOf.l0 k (b : Int) M (W.map mkS) ((W.map mkS).length : Int) (j : Int) a0 a1 a2 a3 a4 a5 (b : Int) ((b + M.length : Nat) : Int) ((W.take j).map (VB a0 a2 a5 b M)) = some ((b : Int), ((b + M.length : Nat) : Int), W.map (VB a0 a2 a5 b M))
  | 0, j, k, hj, hk => by
    obtain ⟨k, rfl⟩ : ∃ k', k = k' + 1 := ⟨k - 1, by omega⟩
    rw [Qf.spec_RangeOf.l0, if_neg (by rw [List.length_map]; omega), List.take_of_length_le (by omega)]
  | m + 1, j, k, hj, hk => by
    obtain ⟨k, rfl⟩ : ∃ k', k = k' + 1 := ⟨k - 1, by omega⟩
    have hlt : j < W.length := by omega
    have hx := chain_mem hW.chain W[j] (List.getElem_mem hlt)
    have hrd : Qf.rd_T52 (W.map mkS) (j : Int) = mkS W[j] := by
      unfold Qf.rd_T52
      rw [Int.toNat_natCast, List.getD_eq_getElem?_getD, List.getElem?_eq_getElem (by rw [List.length_map]; exact hlt), Option.getD_some, List.getElem_map]
    have ih := range_go hM h300 he hW hWl m (j + 1) k (by omega) (by omega)
    have ht : (W.take (j + 1)).map (VB a0 a2 a5 b M) = (W.take j).map (VB a0 a2 a5 b M) ++ [VB a0 a2 a5 b M W[j]] := by
      rw [List.take_succ_eq_append_getElem hlt, List.map_append]
      rfl
    rw [ht] at ih
    generalize W[j] = x at hx hrd ih
    obtain ⟨l, i⟩ := x
    have hp := Nat.two_pow_pos l
    have e1 : 2 ^ l * (i + 1) = 2 ^ l * i + 2 ^ l := by rw [Nat.mul_add, Nat.mul_one]
    have hx1 : b ≤ 2 ^ l * i := hx.1
    have hx2 : 2 ^ l * (i + 1) ≤ b + M.length := hx.2
    have hl63 : l ≤ 63 := by have := pow_300 (t := l) (by omega); omega
    have hr := root_node (a0 := a0) (a1 := a1) (a2 := a2) (a3 := a3) (a4 := a4) (a5 := a5) hM h300 hx1 hx2 k (by omega)
    rw [Qf.spec_RangeOf.l0, if_pos (by rw [List.length_map]; omega), if_pos (by omega), if_pos (by rw [List.length_map]; omega), hrd]
    show (Qf.spec_Leaves.f (l : Int) (i : Int)).bind _ = _
    rw [leaves_of hl63 (by omega), Option.bind_some]
    dsimp only
    have s1 : IntKind.u64.wrap (((2 ^ l * i : Nat) : Int) - (b : Int)) = ((2 ^ l * i - b : Nat) : Int) := by rw [wu _ (by omega)]; omega
    have s2 : IntKind.u64.wrap (((2 ^ l * (i + 1) : Nat) : Int) - (b : Int)) = ((2 ^ l * (i + 1) - b : Nat) : Int) := by rw [wu _ (by omega)]; omega
    rw [s1, s2, if_pos (by omega), if_pos (by omega), if_pos (by omega), Int.toNat_natCast, Int.toNat_natCast, hr, Option.bind_some, if_pos (by rw [List.length_map, List.length_take]; omega), w64p _ (by omega), show ((j : Int) + 1) = ((j + 1 : Nat) : Int) by omega]
    exact ih
theorem same_self (l : List (List Int)) (hl : l.length ≤ 128) (b e : Int) : Qf.spec_SameRange.f b e l b e l = some true := by
  unfold Qf.spec_SameRange.f
  rw [if_pos rfl, if_pos rfl, show Qf.spec_Same.f l l = some true from (if_pos (by omega)).trans (congrArg some (Hs.sameF_yes rfl fun j _ => beq_self_eq_true _)), Option.bind_some]
/-- How many nodes a range has. -/
theorem size_isN {b e : Nat} {W : List (Nat × Nat)} (hbe : b ≤ e) (he : e < 18446744073709551616) (h : IsN b e W) : Qf.compact_RangeSize.f (b : Int) (e : Int) = some ((W.length : Nat) : Int) ∧ W.length ≤ 128 := by
  obtain ⟨L, R, M, d, hf, hm⟩ := decompose_of b e hbe he
  obtain rfl := isN_uniq h (isN_cut (cut_of hm))
  exact ⟨size_of hf hm he, len128 _ _ _ _⟩
theorem visA_le {vl : Nat → List Vis} {ln : Nat → Nat} {m : Nat} (h : ∀ j, j < m → (vl j).length + ln (j + 1) = ln j + 2) : ∀ j, j ≤ m → (visA vl j).length + ln j = ln 0 + 2 * j
  | 0, _ => by rw [visA]; simp
  | j + 1, hj => by
    have h1 := visA_le h j (by omega)
    have h2 := h j (by omega)
    rw [visA, List.length_append]
    omega
/-- All that the law's walk asks for. -/
theorem rgOk_of {b : Nat} {M : List (List Int)} (hM : ∀ x ∈ M, x.length ≤ 5000) (h300 : M.length ≤ 300) (he : b + M.length < 18446744073709551616) : ∃ K ls vl ns, RgOk a0 a1 a2 a3 a4 a5 b M ls vl ns K := by
  obtain ⟨Wf, hW⟩ : ∃ Wf : Nat → List (Nat × Nat), ∀ j, j ≤ M.length → IsN b (b + j) (Wf j) := ⟨fun j => if h : j ≤ M.length then Classical.choose (isN_ex b (b + j) (by omega) (by omega)) else [], fun j hj => by
    dsimp only
    rw [dif_pos hj]
    exact (Classical.choose_spec (isN_ex b (b + j) (by omega) (by omega))).1⟩
  obtain ⟨V, hVe⟩ : ∃ V, V = VB a0 a2 a5 b M := ⟨_, rfl⟩
  have hV : ∀ k i, V (k + 1, i) = hcF a0 a2 a5 (V (k, 2 * i)) (V (k, 2 * i + 1)) := fun k i => by rw [hVe]; rfl
  have hVl : ∀ k i, 2 ^ k ≤ 300 → (V (k, i)).length ≤ 2000000 := fun k i h => by rw [hVe]; exact VB_len hM h
  have hin : ∀ k i e, e ≤ b + M.length → b ≤ 2 ^ k * i → 2 ^ k * (i + 1) ≤ e → 2 ^ k ≤ 300 := fun k i e h0 h1 h2 => by
    rw [Nat.mul_add] at h2
    omega
  have hst : ∀ j, j < M.length → ∃ n, MStep a0 a1 a2 a3 a4 a5 b (b + j) ((Wf j).map V) (V (0, b + j)) ((Wf (j + 1)).map V) (vN V (b + j) n) ∧ Mx b (b + j + 1) n ((b + j) / 2 ^ n) ∧ (Wf (j + 1)).length + n = (Wf j).length + 1 := fun j hj =>
    mstep_leaf V hV (by omega) (by omega) (hW j (by omega)) (hW (j + 1) (by omega)) fun k i h1 h2 => by
      have := hVl k i (hin k i _ (by omega) h1 h2)
      omega
  obtain ⟨ns, hns⟩ : ∃ ns : Nat → Nat, ∀ j, j < M.length → MStep a0 a1 a2 a3 a4 a5 b (b + j) ((Wf j).map V) (V (0, b + j)) ((Wf (j + 1)).map V) (vN V (b + j) (ns j)) ∧ Mx b (b + j + 1) (ns j) ((b + j) / 2 ^ ns j) ∧ (Wf (j + 1)).length + ns j = (Wf j).length + 1 := ⟨fun j => if h : j < M.length then Classical.choose (hst j h) else 0, fun j hj => by
    dsimp only
    rw [dif_pos hj]
    exact Classical.choose_spec (hst j hj)⟩
  have hsz : ∀ j, j ≤ M.length → (Wf j).length ≤ 128 := fun j hj => (size_isN (by omega) (by omega) (hW j hj)).2
  have hW0 : Wf 0 = [] := isN_same (hW 0 (by omega))
  have hva := visA_le (vl := fun j => vN V (b + j) (ns j)) (ln := fun j => (Wf j).length) (m := M.length) fun j hj => by
    have := (hns j hj).2.2
    rw [vN_len]
    omega
  have hel : ∀ x ∈ (Wf M.length).map V, x.length ≤ 2000000 := fun x hx => by
    obtain ⟨y, hy, rfl⟩ := List.mem_map.1 hx
    have h1 := chain_mem (hW M.length (Nat.le_refl _)).chain y hy
    exact hVl y.1 y.2 (hin y.1 y.2 _ (Nat.le_refl _) h1.1 h1.2)
  obtain ⟨L, R, X, d, hf, hm⟩ := decompose_of b (b + M.length) (by omega) he
  obtain ⟨k1, hk1⟩ := nodes_of hm he
  rw [← isN_uniq (hW M.length (Nat.le_refl _)) (isN_cut (cut_of hm))] at hk1
  have hs128 := hsz M.length (Nat.le_refl _)
  refine ⟨k1 + 5000000, fun j => (Wf j).map V, fun j => vN V (b + j) (ns j), ns, ?_⟩
  exact {
    t0 := texts_ok [] _ (by simp) (by simp) (fun x hx => by simp at hx)
    tM := texts_ok M _ (by omega) (by omega) (fun x hx => by have := hM x hx; omega)
    te := texts_ok _ _ (by rw [List.length_map]; omega) (by rw [List.length_map]; omega) (fun x hx => by have := hel x hx; omega)
    sz0 := by
      have h := (size_isN (Nat.le_refl b) (by omega) (hW 0 (by omega))).1
      rw [hW0] at h
      exact h
    he := he
    hMl := h300
    hMr := fun j hj => by
      have := getD_le hM j
      omega
    hs0 := by
      show (Wf 0).map V = []
      rw [hW0]
      rfl
    hst := fun j hj => by
      have h := (hns j hj).1
      have e0 : V (0, b + j) = M.getD j [] := by
        rw [hVe]
        show M.getD (b + j - b) [] = _
        rw [Nat.add_sub_cancel_left]
      rw [e0] at h
      exact h
    hsl := fun j hj => by
      rw [List.length_map]
      have := hsz j hj
      omega
    hvl := fun j hj => by
      have h1 := hva j hj
      have h2 : (Wf 0).length = 0 := by rw [hW0]; rfl
      rw [List.length_map]
      omega
    ro := by
      have hg := range_go (a0 := a0) (a1 := a1) (a2 := a2) (a3 := a3) (a4 := a4) (a5 := a5) hM h300 he (hW M.length (Nat.le_refl _)) hs128 (Wf M.length).length 0 (k1 + 5000000) (by omega) (by omega)
      unfold Qf.spec_RangeOf.f
      rw [wu (M.length : Int) (by omega), show ((b : Int) + (M.length : Int)) = ((b + M.length : Nat) : Int) by omega, wu _ (by omega), nodes_up _ _ _ _ hk1 5000000, Option.bind_some, hVe]
      exact hg
    sr := same_self _ (by rw [List.length_map]; exact hs128) _ _
    nv := fun j _ => vN_len _ _ _
    vi := fun j hj t ht => by
      have hmx := (hns j hj).2.1
      have hi := in_mono ht hmx.1
      have hlo := div_lo (b + j) t
      have hhi := div_hi (b + j) t
      have h1 : b ≤ 2 ^ t * ((b + j) / 2 ^ t) := hi.1
      have h2 : 2 ^ t * ((b + j) / 2 ^ t + 1) ≤ b + j + 1 := hi.2
      have h3 : 2 ^ t * ((b + j) / 2 ^ t + 1) = b + j + 1 := by omega
      have hp3 := hin t _ _ (by omega : b + j + 1 ≤ b + M.length) h1 h2
      have ht8 := pow_300 hp3
      have hr := root_node (a0 := a0) (a1 := a1) (a2 := a2) (a3 := a3) (a4 := a4) (a5 := a5) hM h300 h1 (by omega) (k1 + 5000000) (by omega)
      have hl := leaves_of (k := t) (i := (b + j) / 2 ^ t) (by omega) (by omega)
      rw [h3] at hl hr
      generalize 2 ^ t * ((b + j) / 2 ^ t) = p at h1 hlo hl hr
      refine ⟨V (t, (b + j) / 2 ^ t), vN_at _ _ _ _ ht, by omega, p, hl, h1, hlo, ?_⟩
      unfold Qf.spec_RootOf.f
      rw [if_pos (by omega), if_pos (by omega), if_pos (by omega), Int.toNat_natCast, Int.toNat_natCast, show j + 1 = b + j + 1 - b by omega, hr, Option.bind_some, hVe]
    stop := fun j hj => by
      obtain ⟨h1, h2⟩ := leaves_stop (by omega) (hns j hj).2.1
      exact ⟨by omega, h2⟩ }
end
theorem rangeGrows (a0 a1 a2 a3 a4 a5 x : Int) (A : Option Addr) (c : Nat) (M : List (List Int)) (w : World) (wb : (Lit.int .u64 x).wf = true) (hl : CL w A M) (hc : M.length ≤ c) (HG : Glob w) :
    Calls Tryd.prog 6 #[.agg #[.int .i64 a0, .int .i64 a1, .int .i64 a2, .int .u64 a3, .int .u64 a4, .int .u64 a5], .int .u64 x, .slice A M.length c] w fun e w' => e = .returned (.bool true) ∧ Below w.heap.size w w' := by
  obtain ⟨b, rfl, hb⟩ := nat_of_wf wb
  obtain ⟨K, hK⟩ : ∃ K, K = 2147483648 := ⟨_, rfl⟩
  obtain ⟨z1, hz1, l1⟩ := zz_f M K (by omega)
  cases z1 with
  | false => exact Qf.rg1 K a0 a1 a2 a3 a4 a5 b A c M w hl hc hz1
  | true =>
  obtain ⟨s1, hs1, m1⟩ := small_f M (l1 rfl) K (by omega)
  have hrr : Qf.laws_rangeRoom.f K (b : Int) (b : Int) [] M = some (s1 && decide (b + M.length < 18446744073709551616)) := by
    unfold Qf.laws_rangeRoom.f
    rw [hs1, Option.bind_some]
    cases s1 with
    | false => rfl
    | true =>
      have h300 := (m1 rfl).1
      rw [if_pos rfl, Bool.true_and]
      refine congrArg some ?_
      rw [wu (M.length : Int) (by omega)]
      show decide (((b : Int) + (M.length : Int)) % 18446744073709551616 ≥ (b : Int)) = _
      by_cases h : b + M.length < 18446744073709551616
      · rw [decide_eq_true h, decide_eq_true (by omega)]
      · rw [decide_eq_false h, decide_eq_false (by omega)]
  rcases hv : s1 && decide (b + M.length < 18446744073709551616) with _ | _
  · rw [hv] at hrr
    exact Qf.rg2 K a0 a1 a2 a3 a4 a5 b A c M w hl hc hz1 hrr
  · rw [hv] at hrr
    rw [Bool.and_eq_true, decide_eq_true_eq] at hv
    obtain ⟨h300, rM⟩ := m1 hv.1
    obtain ⟨k, ls, vl, ns, hok⟩ := rgOk_of (a0 := a0) (a1 := a1) (a2 := a2) (a3 := a3) (a4 := a4) (a5 := a5) rM h300 hv.2
    exact Qf.rg3 K a0 a1 a2 a3 a4 a5 b A c M w hl hc hz1 hrr HG ls vl ns k hok
end Go.Proofs.YtfhcpniibiobgaaDoor.Pure
