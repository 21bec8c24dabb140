/- The rows of a tree: plain (printed by gen_pd.py). -/
import Derived.Test.YtfhcpniibiobgaaDoorNk
import Derived.Test.YtfhcpniibiobgaaDoorPi
import Derived.Test.YtfhcpniibiobgaaDoorPj
import Derived.Test.YtfhcpniibiobgaaDoorRn
import Derived.Test.YtfhcpniibiobgaaDoorCo
import Derived.Laws.Strings
namespace Go.Proofs.YtfhcpniibiobgaaDoor.Pure
open Go.RowKit Go.Proofs.YtfhcpniibiobgaaDoorW.PrintWords Go.Proofs.YtfhcpniibiobgaaDoorW.PrintMore Go.Proofs.YtfhcpniibiobgaaDoorW.PrintLast
open Hs (CB CL eqB sameF sameF_ne sameF_no sameF_yes)
open Go.Proofs.YtfhcpniibiobgaaDoor.M (leftN rightN nodesN)

/-- With terms, two children are told from their hash. -/
theorem wordF_inj {x y : Int} (hx : 0 ≤ x ∧ x < 18446744073709551616) (hy : 0 ≤ y ∧ y < 18446744073709551616) (h : Hs.wordF x 8 = Hs.wordF y 8) : x = y := by
  have g : ∀ i, i < 8 → Hs.wb x 8 i = Hs.wb y 8 i := fun i hi => by
    have h1 : (Hs.wordF x 8)[i]? = (Hs.wordF y 8)[i]? := by rw [h]
    unfold Hs.wordF at h1
    rw [show Hs.wn 8 = 8 from rfl, List.getElem?_map, List.getElem?_map, List.getElem?_range hi] at h1
    simpa using h1
  have g0 := g 0 (by omega)
  have g1 := g 1 (by omega)
  have g2 := g 2 (by omega)
  have g3 := g 3 (by omega)
  have g4 := g 4 (by omega)
  have g5 := g 5 (by omega)
  have g6 := g 6 (by omega)
  have g7 := g 7 (by omega)
  simp only [Hs.wb] at g0 g1 g2 g3 g4 g5 g6 g7
  simp at g0 g1 g2 g3 g4 g5 g6 g7
  omega
theorem hcF_inj {a0 a2 a5 : Int} (h0 : a0 ≠ 1) {l1 l2 m1 m2 : List Int} (b1 : l1.length < 18446744073709551616) (b2 : m1.length < 18446744073709551616) (h : hcF a0 a2 a5 l1 l2 = hcF a0 a2 a5 m1 m2) : l1 = m1 ∧ l2 = m2 := by
  unfold hcF at h
  rw [if_neg h0, if_neg h0, List.append_assoc, List.append_assoc, List.append_assoc, List.append_assoc] at h
  have hl : ∀ y : Int, (Hs.wordF y 8).length = 8 := fun y => by unfold Hs.wordF; rw [List.length_map, List.length_range]; rfl
  obtain ⟨_, h⟩ := List.append_inj h rfl
  obtain ⟨hw, h⟩ := List.append_inj h (by rw [hl, hl])
  have := wordF_inj (by omega) (by omega) hw
  exact List.append_inj h (by omega)
/-- Bytes. -/
def Bt (l : List Int) : Prop := ∀ x ∈ l, 0 ≤ x ∧ x < 256
theorem bt_of {l : List Int} (h : ∀ n ∈ l, (Lit.int .u8 n).wf = true) : Bt l := fun x hx => by
  have h2 : IntKind.u8.min ≤ x ∧ x ≤ IntKind.u8.max := by simpa [Lit.wf] using h x hx
  have e1 : IntKind.u8.min = 0 := rfl
  have e2 : IntKind.u8.max = 255 := rfl
  omega
theorem eqB_self (l : List Int) : eqB l l = true := by unfold eqB; exact BEq.rfl
theorem eqB_eq {l m : List Int} (hl : Bt l) (hm : Bt m) (h : eqB l m = true) : l = m := by
  unfold eqB at h
  have h1 : (strOfNums l).toList = (strOfNums m).toList := eq_of_beq h
  have h2 : (strOfNums l).data.toList = (strOfNums m).data.toList := by rw [← ByteArray.toList_eq, ← ByteArray.toList_eq]; exact h1
  rw [strOfNums_data, strOfNums_data] at h2
  have hlen : l.length = m.length := by simpa using congrArg List.length h2
  apply List.ext_getElem hlen
  intro i h3 h4
  have h5 : (l.map fun n => UInt8.ofNat n.toNat)[i]? = (m.map fun n => UInt8.ofNat n.toNat)[i]? := by rw [h2]
  rw [List.getElem?_map, List.getElem?_map, List.getElem?_eq_getElem h3, List.getElem?_eq_getElem h4] at h5
  simp only [Option.map_some, Option.some.injEq] at h5
  have b1 := hl l[i] (List.getElem_mem h3)
  have b2 := hm m[i] (List.getElem_mem h4)
  have h6 := congrArg UInt8.toNat h5
  rw [UInt8.toNat_ofNat', UInt8.toNat_ofNat'] at h6
  omega
theorem wordF_bt (w n : Int) : Bt (Hs.wordF w n) := fun x hx => by
  unfold Hs.wordF at hx
  obtain ⟨i, _, rfl⟩ := List.mem_map.1 hx
  unfold Hs.wb
  omega
theorem hcF_bt (a0 a2 a5 : Int) {l m : List Int} (hl : Bt l) (hm : Bt m) : Bt (hcF a0 a2 a5 l m) := by
  unfold hcF
  split
  · exact wordF_bt _ _
  · intro x hx
    rw [List.mem_append, List.mem_append, List.mem_append] at hx
    rcases hx with ((h | h) | h) | h
    · obtain rfl := List.mem_singleton.1 h; omega
    · exact wordF_bt _ _ x h
    · exact hl x h
    · exact hm x h
theorem sameF_self (L : List (List Int)) : sameF L L = true := sameF_yes rfl fun _ _ => eqB_self _
theorem sameF_eq {L M : List (List Int)} (hL : ∀ x ∈ L, Bt x) (hM : ∀ x ∈ M, Bt x) (h : sameF L M = true) : L = M := by
  unfold sameF at h
  rw [Bool.and_eq_true, decide_eq_true_eq, List.all_eq_true] at h
  refine List.ext_getElem h.1 fun i h1 h2 => ?_
  have h3 := h.2 i (List.mem_range.2 h1)
  rw [List.getD_eq_getElem?_getD, List.getD_eq_getElem?_getD, List.getElem?_eq_getElem h1, List.getElem?_eq_getElem h2] at h3
  exact eqB_eq (hL _ (List.getElem_mem h1)) (hM _ (List.getElem_mem h2)) h3
theorem sameF_iff {L M : List (List Int)} (hL : ∀ x ∈ L, Bt x) (hM : ∀ x ∈ M, Bt x) : sameF L M = decide (L = M) := by
  by_cases h : L = M
  · subst h
    rw [sameF_self, decide_eq_true rfl]
  · rw [decide_eq_false h]
    rcases hh : sameF L M with _ | _
    · rfl
    · exact absurd (sameF_eq hL hM hh) h
theorem texts_go (L : List (List Int)) (hL : L.length ≤ 5864062014804) (hrow : ∀ x ∈ L, x.length < 140737488355328) : ∀ (m j k : Nat), j + m = L.length → m < k → Qf.impl_texts.l0 k (L.take j) L (L.length : Int) (j : Int) = some L
  | 0, j, k + 1, h, _ => by
    unfold Qf.impl_texts.l0
    rw [if_neg (by omega), List.take_of_length_le (by omega)]
  | m + 1, j, k + 1, h, hk => by
    have hj : j < L.length := by omega
    have hx : Qf.rd_L1 L (j : Int) = L[j] := by
      show L.getD (j : Int).toNat [] = L[j]
      rw [Int.toNat_natCast, List.getD_eq_getElem?_getD, List.getElem?_eq_getElem hj]
      rfl
    unfold Qf.impl_texts.l0
    rw [if_pos (by omega), if_pos (by omega), if_pos (by omega), Option.bind_some, hx, List.nil_append, if_pos (by have := hrow L[j] (List.getElem_mem hj); simpa using this), if_pos (by rw [List.length_take]; omega), ← List.take_succ_eq_append_getElem hj, w64p _ (by omega), show ((j : Int) + 1) = ((j + 1 : Nat) : Int) by omega]
    exact texts_go L hL hrow m (j + 1) k (by omega) (by omega)
theorem texts_ok (L : List (List Int)) (k : Nat) (hk : L.length < k) (hL : L.length ≤ 5864062014804) (hrow : ∀ x ∈ L, x.length < 140737488355328) : Qf.impl_texts.f k L = some L := texts_go L hL hrow L.length 0 k (by omega) hk
theorem chB_inj {a0 a2 a5 : Int} (h0 : a0 ≠ 1) : ∀ (l m : List (List Int)) (s r : List Int), l.length = m.length → (∀ h ∈ l, h.length ≤ 3000000000) → (∀ h ∈ m, h.length ≤ 3000000000) → chB a0 a2 a5 l s = chB a0 a2 a5 m r → s = r ∧ l = m
  | [], [], s, r, _, _, _, h => ⟨h, rfl⟩
  | x :: l, y :: m, s, r, hl, bl, bm, h => by
    obtain ⟨e1, e2⟩ := chB_inj h0 l m _ _ (by simpa using hl) (fun z hz => bl z (by simp [hz])) (fun z hz => bm z (by simp [hz])) h
    have b1 := bl x (by simp)
    have b2 := bm y (by simp)
    obtain ⟨e3, e4⟩ := hcF_inj h0 (by omega) (by omega) e1
    exact ⟨e4, by rw [e3, e2]⟩
theorem chB_bt (a0 a2 a5 : Int) : ∀ (l : List (List Int)) (s : List Int), (∀ h ∈ l, Bt h) → Bt s → Bt (chB a0 a2 a5 l s)
  | [], s, _, hs => hs
  | h :: t, s, hl, hs => chB_bt a0 a2 a5 t _ (fun x hx => hl x (by simp [hx])) (hcF_bt a0 a2 a5 (hl h (by simp)) hs)

def leafF (a0 a2 a4 : Int) (x : List Int) : List Int := if a0 = 1 then Hs.wordF (Hs.mixF a4 x) a2 else [0] ++ x
theorem leaf_some (a0 a1 a2 a3 a4 a5 : Int) (x : List Int) (hx : x.length ≤ 5000) : Qf.impl_toy_HashLeaf.f a0 a1 a2 a3 a4 a5 x = some (leafF a0 a2 a4 x) := by
  unfold Qf.impl_toy_HashLeaf.f leafF
  by_cases h : a0 = 1
  · rw [if_pos h, if_pos h]
    simp only [Qf.impl_mixed.f, Qf.impl_word.f]
    rw [if_pos (by omega)]
    rfl
  · rw [if_neg h, if_neg h, Option.bind_some, if_pos (by simp; omega)]
theorem leafF_len (a0 a2 a4 : Int) (x : List Int) (hx : x.length ≤ 5000) : (leafF a0 a2 a4 x).length ≤ 5010 := by
  unfold leafF
  split
  · have := wordF_len (Hs.mixF a4 x) a2
    omega
  · simp
    omega
theorem leafF_bt (a0 a2 a4 : Int) {x : List Int} (hx : Bt x) : Bt (leafF a0 a2 a4 x) := by
  unfold leafF
  split
  · exact wordF_bt _ _
  · intro y hy
    rcases List.mem_append.1 hy with h | h
    · obtain rfl := List.mem_singleton.1 h
      omega
    · exact hx y h
/-- The hash of a node of a tree. -/
def nd (a0 a2 a5 : Int) (hl : Nat → List Int) : Nat → Nat → List Int
  | 0, i => hl i
  | l + 1, i => hcF a0 a2 a5 (nd a0 a2 a5 hl l (2 * i)) (nd a0 a2 a5 hl l (2 * i + 1))
def bl (n : Nat) : Nat := if n = 0 then 0 else Nat.log2 n + 1
theorem lt_bl {l n : Nat} : l < bl n ↔ 2 ^ l ≤ n := by
  unfold bl
  by_cases h : n = 0
  · subst h
    have := Nat.two_pow_pos l
    rw [if_pos rfl]
    omega
  · rw [if_neg h, Nat.lt_succ_iff, Nat.le_log2 h]
def rsN (a0 a2 a5 : Int) (hl : Nat → List Int) (n : Nat) : List (List (List Int)) := (List.range (bl n)).map fun l => (List.range (n / 2 ^ l)).map (nd a0 a2 a5 hl l)
section
variable {a0 a2 a5 : Int} {hl : Nat → List Int}
theorem rsN_len (n : Nat) : (rsN a0 a2 a5 hl n).length = bl n := by simp [rsN]
theorem rsN_get (n l : Nat) : (rsN a0 a2 a5 hl n).getD l [] = (List.range (n / 2 ^ l)).map (nd a0 a2 a5 hl l) := by
  by_cases h : l < bl n
  · rw [List.getD_eq_getElem?_getD, List.getElem?_eq_getElem (by rw [rsN_len]; exact h)]
    simp [rsN]
  · have h1 : ¬ 2 ^ l ≤ n := fun hh => h (lt_bl.2 hh)
    rw [List.getD_eq_getElem?_getD, List.getElem?_eq_none (by rw [rsN_len]; omega), Nat.div_eq_of_lt (by omega)]
    rfl
theorem rsN_at (n l i : Nat) (hi : i < n / 2 ^ l) : ((rsN a0 a2 a5 hl n).getD l []).getD i [] = nd a0 a2 a5 hl l i := by
  rw [rsN_get, List.getD_eq_getElem?_getD, List.getElem?_eq_getElem (by simpa using hi)]
  simp
theorem rsN_row (n l : Nat) : ((rsN a0 a2 a5 hl n).getD l []).length = n / 2 ^ l := by rw [rsN_get]; simp
end
theorem upR_lo (rows : List (List (List Int))) (sj : Nat → List Int) : ∀ j, j ≤ rows.length → ∀ i, i < j → (Qf.upR rows sj j).getD i [] = rows.getD i [] ++ [sj i]
  | 0, _, i, hi => by omega
  | j + 1, hj, i, hi => by
    rw [Qf.upR]
    by_cases e : j = i
    · subst e
      rw [Qf.getD_set_self _ _ _ _ (by rw [Qf.upR_len]; omega), Qf.upR_hi rows sj j j (Nat.le_refl _)]
    · rw [Qf.getD_set_ne _ _ _ _ _ e, upR_lo rows sj j (by omega) i (by omega)]
theorem upT_get (rows : List (List (List Int))) (sj : Nat → List Int) (m : Nat) (hm : m ≤ rows.length) (i : Nat) : (Qf.upT rows sj m).getD i [] = if i ≤ m then rows.getD i [] ++ [sj i] else rows.getD i [] := by
  unfold Qf.upT
  have hnone : ∀ q, rows.length ≤ q → rows.getD q [] = [] := fun q hq => by rw [List.getD_eq_getElem?_getD, List.getElem?_eq_none hq]; rfl
  by_cases h : m = rows.length
  · rw [if_pos h, Qf.getD_snoc, Qf.upR_len]
    by_cases e : i = rows.length
    · rw [if_pos e, if_pos (by omega), hnone i (by omega), e, h]
      rfl
    · rw [if_neg e]
      rcases Nat.lt_or_ge i m with hlt | hge
      · rw [if_pos (by omega), upR_lo rows sj m hm i hlt]
      · rw [if_neg (by omega), Qf.upR_hi rows sj m i hge]
  · rw [if_neg h]
    by_cases e : m = i
    · subst e
      rw [Qf.getD_set_self _ _ _ _ (by rw [Qf.upR_len]; omega), if_pos (Nat.le_refl _)]
    · rw [Qf.getD_set_ne _ _ _ _ _ e]
      rcases Nat.lt_or_ge i m with hlt | hge
      · rw [if_pos (by omega), upR_lo rows sj m hm i hlt]
      · rw [if_neg (by omega), Qf.upR_hi rows sj m i hge]
theorem upT_len (rows : List (List (List Int))) (sj : Nat → List Int) (m : Nat) : (Qf.upT rows sj m).length = if m = rows.length then rows.length + 1 else rows.length := by
  unfold Qf.upT
  split
  · rw [List.length_append, Qf.upR_len]
    rfl
  · rw [List.length_set, Qf.upR_len]
theorem ext_getD {l1 l2 : List (List (List Int))} (h : l1.length = l2.length) (h2 : ∀ i, l1.getD i [] = l2.getD i []) : l1 = l2 := by
  refine List.ext_getElem h fun i a b => ?_
  have := h2 i
  rwa [List.getD_eq_getElem?_getD, List.getD_eq_getElem?_getD, List.getElem?_eq_getElem a, List.getElem?_eq_getElem b] at this
theorem nd_len {a0 a2 a5 : Int} {hl : Nat → List Int} (h : ∀ i, (hl i).length ≤ 5010) : ∀ l i, (nd a0 a2 a5 hl l i).length + 9 ≤ 2 ^ l * 5020
  | 0, i => by
    have := h i
    rw [nd]
    omega
  | l + 1, i => by
    have h1 := nd_len (a0 := a0) (a2 := a2) (a5 := a5) h l (2 * i)
    have h2 := nd_len (a0 := a0) (a2 := a2) (a5 := a5) h l (2 * i + 1)
    have h3 := hcF_len a0 a2 a5 (nd a0 a2 a5 hl l (2 * i)) (nd a0 a2 a5 hl l (2 * i + 1))
    rw [nd, Nat.pow_succ, Nat.mul_right_comm]
    omega
theorem tstep_of (a0 a1 a2 a3 a4 a5 : Int) {hl : Nat → List Int} (h : ∀ i, (hl i).length ≤ 5010) (n : Nat) (hn : n < 300) : Qf.TStep a0 a1 a2 a3 a4 a5 n (rsN a0 a2 a5 hl n) (hl n) (rsN a0 a2 a5 hl (n + 1)) := by
  obtain ⟨m, q, hq⟩ := Core.pow_odd (n + 1) (n + 1) (Nat.le_refl _) (by omega)
  have hp := Nat.two_pow_pos m
  have hmul : 2 ^ m * (2 * q + 1) = 2 ^ m * (2 * q) + 2 ^ m := by rw [Nat.mul_add, Nat.mul_one]
  have hdm : n / 2 ^ m = 2 * q := by
    rw [show n = 2 ^ m * (2 * q) + (2 ^ m - 1) by omega, Nat.mul_add_div hp, Nat.div_eq_of_lt (by omega)]
    omega
  have hle : 2 ^ m ≤ n + 1 := by omega
  have hml : m ≤ bl n := by
    rcases Nat.eq_zero_or_pos m with h0 | h0
    · omega
    · have h1 : m - 1 < bl n := lt_bl.2 (by
        have h2 : 2 ^ m = 2 * 2 ^ (m - 1) := by rw [← Nat.pow_succ']; congr 1; omega
        have := Nat.two_pow_pos (m - 1)
        omega)
      omega
  have hdvd : ∀ i, i ≤ m → 2 ^ i ∣ n + 1 := fun i hi => by
    rw [hq]
    exact Nat.dvd_trans (Nat.pow_dvd_pow 2 hi) ⟨_, rfl⟩
  have hbl : bl n ≤ 100 := by
    rcases Nat.lt_or_ge 100 (bl n) with hh | hh
    · have := lt_bl.1 hh
      have h2 : 2 ^ 9 ≤ 2 ^ 100 := Nat.pow_le_pow_right (by omega) (by omega)
      omega
    · exact hh
  have hm64 : m < 64 := by
    rcases Nat.lt_or_ge m 64 with hh | hh
    · exact hh
    · have h2 : 2 ^ 9 ≤ 2 ^ m := Nat.pow_le_pow_right (by omega) (by omega)
      omega
  have hsz : ∀ i, i ≤ m → ∀ x, (nd a0 a2 a5 hl i x).length ≤ 10000000000000 := fun i hi x => by
    have h1 := nd_len (a0 := a0) (a2 := a2) (a5 := a5) h i x
    have h2 : 2 ^ i ≤ 2 ^ m := Nat.pow_le_pow_right (by omega) hi
    omega
  refine ⟨m, fun i => nd a0 a2 a5 hl i (n / 2 ^ i), by show nd a0 a2 a5 hl 0 (n / 2 ^ 0) = _; rw [Nat.pow_zero, Nat.div_one]; rfl, by rw [rsN_len]; exact hml, by rw [rsN_len]; exact hbl, hm64, fun i _ => ?_, fun i hi => Core.ones_below (hdvd m (Nat.le_refl _)) hi, by rw [hdm]; omega, fun i hi => ?_, fun i hi => ?_, ?_⟩
  · rw [rsN_row]
    have := Nat.div_le_self n (2 ^ i)
    omega
  · rw [rsN_row]
    have := Core.ones_below (hdvd m (Nat.le_refl _)) hi
    generalize n / 2 ^ i = p at this ⊢
    omega
  · have ho := Core.ones_below (hdvd m (Nat.le_refl _)) hi
    have hpos : n / 2 ^ i - 1 < n / 2 ^ i := by
      generalize n / 2 ^ i = p at ho ⊢
      omega
    rw [rsN_row, rsN_at n i _ hpos, toyHC _ _ _ _ _ _ _ _ (hsz i (by omega) _) (hsz i (by omega) _)]
    have h2 : n / 2 ^ (i + 1) = n / 2 ^ i / 2 := by rw [Nat.pow_succ, Nat.div_div_eq_div_mul]
    refine congrArg some ?_
    show _ = nd a0 a2 a5 hl (i + 1) (n / 2 ^ (i + 1))
    rw [nd, h2]
    generalize n / 2 ^ i = p at ho ⊢
    rw [show 2 * (p / 2) = p - 1 by omega, show p - 1 + 1 = p by omega]
  · refine ext_getD ?_ fun i => ?_
    · rw [rsN_len, upT_len, rsN_len]
      by_cases he : m = bl n
      · rw [if_pos he]
        have h1 : ¬ 2 ^ m ≤ n := fun hh => by
          have := lt_bl.2 hh
          omega
        have h2 : m < bl (n + 1) := lt_bl.2 hle
        have h3 : ¬ m + 1 < bl (n + 1) := fun hh => by
          have := lt_bl.1 hh
          rw [Nat.pow_succ] at this
          omega
        omega
      · rw [if_neg he]
        have h1 : ¬ 2 ^ bl n ≤ n := fun hh => by
          have := lt_bl.2 hh
          omega
        have h2 : ¬ bl n < bl (n + 1) := fun hh => by
          have h4 := lt_bl.1 hh
          have h5 : n + 1 = 2 ^ bl n := by omega
          have h6 : 2 ^ bl n ∣ 2 ^ m * (2 * q + 1) := by
            rw [← hq, h5]
            exact Nat.dvd_refl _
          have := Core.odd_pow h6
          omega
        have h3 : bl n ≤ bl (n + 1) := by
          rcases Nat.eq_zero_or_pos (bl n) with h0 | h0
          · omega
          · have h4 : bl n - 1 < bl n := by omega
            have h5 : bl n - 1 < bl (n + 1) := lt_bl.2 (Nat.le_succ_of_le (lt_bl.1 h4))
            omega
        omega
    · rw [upT_get _ _ _ (by rw [rsN_len]; exact hml), rsN_get, rsN_get]
      have hpi := Nat.two_pow_pos i
      by_cases hi : i ≤ m
      · obtain ⟨u, hu⟩ := hdvd i hi
        have hu1 : 1 ≤ u := by
          rcases Nat.eq_zero_or_pos u with h0 | h0
          · rw [h0] at hu
            omega
          · exact h0
        have hus : 2 ^ i * u = 2 ^ i * (u - 1) + 2 ^ i := by
          rw [← Nat.mul_succ]
          congr 1
          omega
        have e1 : (n + 1) / 2 ^ i = u := by rw [hu, Nat.mul_div_cancel_left _ hpi]
        have e2 : n / 2 ^ i = u - 1 := by
          rw [show n = 2 ^ i * (u - 1) + (2 ^ i - 1) by omega, Nat.mul_add_div hpi, Nat.div_eq_of_lt (by omega), Nat.add_zero]
        rw [if_pos hi, e1, e2]
        conv => lhs; rw [show u = u - 1 + 1 by omega]
        rw [List.range_succ, List.map_append]
        rfl
      · rw [if_neg hi]
        have hnd : ¬ 2 ^ i ∣ n + 1 := fun hh => by
          rw [hq] at hh
          have := Core.odd_pow hh
          omega
        have e1 := Nat.div_add_mod n (2 ^ i)
        have e2 := Nat.mod_lt n hpi
        have e3 : n % 2 ^ i + 1 ≠ 2 ^ i := fun hh => hnd ⟨n / 2 ^ i + 1, by rw [Nat.mul_add, Nat.mul_one]; omega⟩
        have e4 : (n + 1) / 2 ^ i = n / 2 ^ i := by
          conv => lhs; rw [show n + 1 = 2 ^ i * (n / 2 ^ i) + (n % 2 ^ i + 1) by omega]
          rw [Nat.mul_add_div hpi, Nat.div_eq_of_lt (show n % 2 ^ i + 1 < 2 ^ i by omega), Nat.add_zero]
        rw [e4]
end Go.Proofs.YtfhcpniibiobgaaDoor.Pure
