/- FnDataTell: the root of a tree tells its entries; all ways joined: plain. -/
import Derived.Test.YtfhcpniibiobgaaDoorPd
namespace Go.Proofs.YtfhcpniibiobgaaDoor.Pure
open Go.RowKit Go.Proofs.YtfhcpniibiobgaaDoorW.PrintWords Go.Proofs.YtfhcpniibiobgaaDoorW.PrintMore Go.Proofs.YtfhcpniibiobgaaDoorW.PrintLast
open Hs (CB CL eqB sameF sameF_ne sameF_no sameF_yes)
open Go.Proofs.YtfhcpniibiobgaaDoor.M (leftN rightN nodesN)

theorem right_ok (e : Nat) : ∀ (f R : Nat), f ≤ 64 → R < 2 ^ f → R ≤ e → 2 ^ f ∣ e - R → (∀ x ∈ rightN f e R, 2 ^ x.1 ≤ e ∧ x.2 < e / 2 ^ x.1) ∧ ∀ j, e - R ≤ j → j < e → ∃ x ∈ rightN f e R, x.2 * 2 ^ x.1 ≤ j ∧ j < (x.2 + 1) * 2 ^ x.1 := fun f => by
  induction f using Nat.strongRecOn with
  | _ f ih =>
    intro R hf hR he hd
    rcases f with _ | f
    · have h0 : R = 0 := by simpa using hR
      subst h0
      exact ⟨fun x hx => by simp [rightN] at hx, fun j h1 h2 => by omega⟩
    · by_cases h0 : R = 0
      · subst h0
        exact ⟨fun x hx => by simp [rightN] at hx, fun j h1 h2 => by omega⟩
      · obtain ⟨_, hcf, hle, _, hrest, ⟨u0, hu⟩, hd2⟩ := M.rstep f e R hf h0 hR he hd
        obtain ⟨u, hu2⟩ : ∃ u, u = 2 * u0 := ⟨_, rfl⟩
        rw [← hu2] at hu
        clear hu2
        rw [rightN, if_neg h0]
        generalize Lib.bitLen R - 1 = c at hcf hle hrest hu hd2
        have hp := Nat.two_pow_pos c
        rw [M.rightN_fuel c f e (R - 2 ^ c) hcf (by omega) hrest]
        obtain ⟨i1, i2⟩ := ih c (by omega) (R - 2 ^ c) (by omega) hrest (by omega) hd2
        have hdiv : (e - R) / 2 ^ c = u := by rw [hu, Nat.mul_div_cancel_left _ hp]
        rw [hdiv]
        have hmul : u * 2 ^ c = e - R := by rw [hu, Nat.mul_comm]
        have hmul2 : (u + 1) * 2 ^ c = e - R + 2 ^ c := by rw [Nat.succ_mul, hmul]
        refine ⟨fun x hx => ?_, fun j h1 h2 => ?_⟩
        · rcases List.mem_cons.1 hx with rfl | hx
          · refine ⟨by show 2 ^ c ≤ e; omega, ?_⟩
            have : u + 1 ≤ e / 2 ^ c := (Nat.le_div_iff_mul_le hp).2 (by omega)
            exact this
          · exact i1 x hx
        · rcases Nat.lt_or_ge j (e - R + 2 ^ c) with hlt | hge
          · exact ⟨_, List.mem_cons_self, by show u * 2 ^ c ≤ j; omega, by show j < (u + 1) * 2 ^ c; omega⟩
          · obtain ⟨x, hx, g1, g2⟩ := i2 j (by omega) h2
            exact ⟨x, List.mem_cons_of_mem _ hx, g1, g2⟩
theorem nd_inj {a0 a2 a5 : Int} (h0 : a0 ≠ 1) {hl hl' : Nat → List Int} (h : ∀ i, (hl i).length ≤ 5010) (h' : ∀ i, (hl' i).length ≤ 5010) : ∀ l, l < 40 → ∀ i, nd a0 a2 a5 hl l i = nd a0 a2 a5 hl' l i → ∀ j, i * 2 ^ l ≤ j → j < (i + 1) * 2 ^ l → hl j = hl' j
  | 0, _, i, he, j, h1, h2 => by
    rw [Nat.pow_zero, Nat.mul_one] at h1 h2
    obtain rfl : j = i := by omega
    exact he
  | l + 1, hlt, i, he, j, h1, h2 => by
    rw [nd, nd] at he
    have hp : 2 ^ l ≤ 2 ^ 40 := Nat.pow_le_pow_right (by omega) (by omega)
    have b1 := nd_len (a0 := a0) (a2 := a2) (a5 := a5) h l (2 * i)
    have b2 := nd_len (a0 := a0) (a2 := a2) (a5 := a5) h' l (2 * i)
    obtain ⟨e1, e2⟩ := hcF_inj h0 (by omega) (by omega) he
    have q1 : i * 2 ^ (l + 1) = 2 * i * 2 ^ l := by rw [Nat.pow_succ, Nat.mul_comm (2 ^ l) 2, ← Nat.mul_assoc, Nat.mul_comm i 2]
    have q2 : (i + 1) * 2 ^ (l + 1) = (2 * i + 1 + 1) * 2 ^ l := by rw [Nat.pow_succ, Nat.mul_comm (2 ^ l) 2, ← Nat.mul_assoc]; congr 1; omega
    rcases Nat.lt_or_ge j ((2 * i + 1) * 2 ^ l) with hj | hj
    · exact nd_inj h0 h h' l (by omega) (2 * i) e1 j (by omega) hj
    · exact nd_inj h0 h h' l (by omega) (2 * i + 1) e2 j hj (by omega)
theorem nd_bt {a0 a2 a5 : Int} {hl : Nat → List Int} (h : ∀ i, Bt (hl i)) : ∀ l i, Bt (nd a0 a2 a5 hl l i)
  | 0, i => h i
  | l + 1, _ => hcF_bt a0 a2 a5 (nd_bt h l _) (nd_bt h l _)
/-- The nodes' hashes of a tree of n leaves, and its root. -/
def wnd (a0 a2 a5 : Int) (hl : Nat → List Int) (n : Nat) : List (List Int) := (rightN 64 n n).map fun x => nd a0 a2 a5 hl x.1 x.2
def erF (a0 a2 a3 : Int) : List Int := if a0 = 1 then Hs.wordF a3 a2 else [2]
def rootT (a0 a2 a3 a5 : Int) (hl : Nat → List Int) (n : Nat) : List Int := if n = 0 then erF a0 a2 a3 else chB a0 a2 a5 ((wnd a0 a2 a5 hl n).take ((wnd a0 a2 a5 hl n).length - 1)).reverse ((wnd a0 a2 a5 hl n).getD ((wnd a0 a2 a5 hl n).length - 1) [])
theorem er_some (a0 a1 a2 a3 a4 a5 : Int) : Qf.impl_toy_EmptyRoot.f a0 a1 a2 a3 a4 a5 = some (erF a0 a2 a3) := by
  unfold Qf.impl_toy_EmptyRoot.f erF
  by_cases h : a0 = 1
  · rw [if_pos h, if_pos h]
    rfl
  · rw [if_neg h, if_neg h]
section
variable {a0 a1 a2 a3 a4 a5 : Int} {hl hl' : Nat → List Int}
theorem wnd_mem (h : ∀ i, (hl i).length ≤ 5010) (n : Nat) (hn : n ≤ 300) : ∀ y ∈ wnd a0 a2 a5 hl n, y.length ≤ 1600000 := fun y hy => by
  obtain ⟨x, hx, rfl⟩ := List.mem_map.1 hy
  have h1 := ((right_ok n 64 n (Nat.le_refl _) (by omega) (Nat.le_refl _) (by simp)).1 x hx).1
  have h2 := nd_len (a0 := a0) (a2 := a2) (a5 := a5) h x.1 x.2
  omega
theorem wnd_len (n : Nat) : (wnd a0 a2 a5 hl n).length ≤ 64 := by
  unfold wnd
  rw [List.length_map]
  exact M.rightN_len 64 n n
theorem wnd_pos (n : Nat) (hn : n ≠ 0) : 0 < (wnd a0 a2 a5 hl n).length := by
  unfold wnd
  rw [List.length_map, rightN, if_neg hn]
  simp
theorem wnd_inj (h0 : a0 ≠ 1) (h : ∀ i, (hl i).length ≤ 5010) (h' : ∀ i, (hl' i).length ≤ 5010) (n : Nat) (hn : n ≤ 300) (he : wnd a0 a2 a5 hl n = wnd a0 a2 a5 hl' n) : ∀ j, j < n → hl j = hl' j := fun j hj => by
  obtain ⟨g1, g2⟩ := right_ok n 64 n (Nat.le_refl _) (by omega) (Nat.le_refl _) (by simp)
  obtain ⟨x, hx, q1, q2⟩ := g2 j (by omega) hj
  have h1 := (g1 x hx).1
  have hx1 : x.1 < 40 := by
    rcases Nat.lt_or_ge x.1 40 with hh | hh
    · exact hh
    · have : 2 ^ 9 ≤ 2 ^ x.1 := Nat.pow_le_pow_right (by omega) (by omega)
      omega
  have e1 : nd a0 a2 a5 hl x.1 x.2 = nd a0 a2 a5 hl' x.1 x.2 := List.map_inj_left.1 he x hx
  exact nd_inj h0 h h' x.1 hx1 x.2 e1 j q1 q2
theorem rootT_inj (h0 : a0 ≠ 1) (h : ∀ i, (hl i).length ≤ 5010) (h' : ∀ i, (hl' i).length ≤ 5010) (n : Nat) (hn : n ≤ 300) (hz : n ≠ 0) (he : rootT a0 a2 a3 a5 hl n = rootT a0 a2 a3 a5 hl' n) : ∀ j, j < n → hl j = hl' j := by
  unfold rootT at he
  rw [if_neg hz, if_neg hz] at he
  have hlen : (wnd a0 a2 a5 hl n).length = (wnd a0 a2 a5 hl' n).length := by unfold wnd; rw [List.length_map, List.length_map]
  have hp := wnd_pos (a0 := a0) (a2 := a2) (a5 := a5) (hl := hl) n hz
  have m1 := wnd_mem (a0 := a0) (a2 := a2) (a5 := a5) h n hn
  have m2 := wnd_mem (a0 := a0) (a2 := a2) (a5 := a5) h' n hn
  obtain ⟨e1, e2⟩ := chB_inj h0 _ _ _ _ (by rw [List.length_reverse, List.length_reverse, List.length_take, List.length_take, hlen]) (fun y hy => by have := m1 y (List.mem_of_mem_take (List.mem_reverse.1 hy)); omega) (fun y hy => by have := m2 y (List.mem_of_mem_take (List.mem_reverse.1 hy)); omega) he
  refine wnd_inj (a0 := a0) (a2 := a2) (a5 := a5) h0 h h' n hn ?_
  have e3 := List.reverse_inj.1 e2
  have s1 : ∀ W : List (List Int), 0 < W.length → W = W.take (W.length - 1) ++ [W.getD (W.length - 1) []] := fun W hW => by
    rw [List.getD_eq_getElem?_getD, List.getElem?_eq_getElem (by omega), Option.getD_some, ← List.take_succ_eq_append_getElem (by omega), List.take_of_length_le (by omega)]
  have t1 := s1 _ hp
  have t2 := s1 _ (show 0 < (wnd a0 a2 a5 hl' n).length by rw [← hlen]; exact hp)
  rw [e3, e1] at t1
  exact t1.trans t2.symm
theorem rootT_bt (h : ∀ i, Bt (hl i)) (n : Nat) (hz : n ≠ 0) : Bt (rootT a0 a2 a3 a5 hl n) := by
  unfold rootT
  rw [if_neg hz]
  have hm : ∀ y ∈ wnd a0 a2 a5 hl n, Bt y := fun y hy => by
    obtain ⟨x, _, rfl⟩ := List.mem_map.1 hy
    exact nd_bt h _ _
  have hp := wnd_pos (a0 := a0) (a2 := a2) (a5 := a5) (hl := hl) n hz
  refine chB_bt a0 a2 a5 _ _ (fun y hy => hm y (List.mem_of_mem_take (List.mem_reverse.1 hy))) (hm _ ?_)
  rw [List.getD_eq_getElem?_getD, List.getElem?_eq_getElem (by omega), Option.getD_some]
  exact List.getElem_mem _
end
theorem tdOk_of (a0 a1 a2 a3 a4 a5 : Int) (M : List (List Int)) (hM : ∀ x ∈ M, x.length ≤ 5000) (h300 : M.length ≤ 300) : Qf.TdOk a0 a1 a2 a3 a4 a5 M 1000 (fun j => leafF a0 a2 a4 (M.getD j [])) (rsN a0 a2 a5 (fun j => leafF a0 a2 a4 (M.getD j []))) (rootT a0 a2 a3 a5 (fun j => leafF a0 a2 a4 (M.getD j [])) M.length) := by
  have hg : ∀ j, (M.getD j []).length ≤ 5000 := fun j => by
    rw [List.getD_eq_getElem?_getD]
    rcases h : M[j]? with _ | y
    · simp
    · exact hM y (List.mem_of_getElem? h)
  have hll : ∀ j, ((fun j => leafF a0 a2 a4 (M.getD j [])) j).length ≤ 5010 := fun j => leafF_len a0 a2 a4 _ (hg j)
  generalize hhl : (fun j => leafF a0 a2 a4 (M.getD j [])) = hl at hll
  have hhl2 : ∀ j, hl j = leafF a0 a2 a4 (M.getD j []) := fun j => by rw [← hhl]
  exact {
    tx := texts_ok M 1000 (by omega) (by omega) (fun x hx => by have := hM x hx; omega)
    ml := h300
    hh := fun j _ => by rw [hhl2]; exact leaf_some a0 a1 a2 a3 a4 a5 _ (hg j)
    st := fun j hj => tstep_of a0 a1 a2 a3 a4 a5 hll j (by omega)
    r0 := rfl
    r1 := fun hp => by rw [rsN_len]; exact lt_bl.2 (by rw [Nat.pow_zero]; omega)
    r2 := by rw [rsN_row, Nat.pow_zero, Nat.div_one]
    r3 := fun i => by
      rcases Nat.lt_or_ge i M.length with hi | hi
      · rw [rsN_at _ _ _ (by rw [Nat.pow_zero, Nat.div_one]; exact hi), nd]
        have := hll i
        omega
      · rw [List.getD_eq_getElem?_getD, List.getElem?_eq_none (by rw [rsN_row, Nat.pow_zero, Nat.div_one]; exact hi)]
        simp
    ha := fun w0 gt S w1 vh rv hT HG => by
      by_cases hz : M.length = 0
      · have hr : rootT a0 a2 a3 a5 hl M.length = erF a0 a2 a3 := by unfold rootT; rw [if_pos hz]
        rw [hr]
        have h1 := Qf.hashAt0_calls a0 a1 a2 a3 a4 a5 w0 gt S w1 _ vh rv _ _ hT (er_some a0 a1 a2 a3 a4 a5)
        rw [hz]
        exact h1
      · obtain ⟨L, R, X, d, hf, hm⟩ := decompose_of 0 M.length (by omega) (by omega)
        obtain ⟨k, hk⟩ := rangeNodes_of hf hm (by omega) [] (by simp)
        have hL := hm.zero rfl
        have hlo := hm.lo
        have hhi := hm.hi
        obtain rfl : R = M.length := by omega
        subst hL
        have hnn : nodesN X M.length 0 M.length = rightN 64 M.length M.length := by
          unfold nodesN
          rw [leftN, if_pos rfl, List.nil_append]
        rw [hnn, List.nil_append] at hk
        have hok := right_ok M.length 64 M.length (Nat.le_refl _) (by omega) (Nat.le_refl _) (by simp)
        have hwl : ((rightN 64 M.length M.length).map mk108).length = (wnd a0 a2 a5 hl M.length).length := by unfold wnd; rw [List.length_map, List.length_map]
        have hp := wnd_pos (a0 := a0) (a2 := a2) (a5 := a5) (hl := hl) M.length hz
        have hl64 := wnd_len (a0 := a0) (a2 := a2) (a5 := a5) (hl := hl) M.length
        have hmap : ((rightN 64 M.length M.length).map mk108).map (Qf.nodeF (rsN a0 a2 a5 hl M.length)) = wnd a0 a2 a5 hl M.length := by
          unfold wnd
          rw [List.map_map]
          refine List.map_congr_left fun x hx => ?_
          show ((rsN a0 a2 a5 hl M.length).getD ((x.1 : Int)).toNat []).getD ((x.2 : Int)).toNat [] = _
          rw [Int.toNat_natCast, Int.toNat_natCast]
          exact rsN_at _ _ _ (hok.1 x hx).2
        have hmm := wnd_mem (a0 := a0) (a2 := a2) (a5 := a5) hll M.length h300
        have hgd : (wnd a0 a2 a5 hl M.length).getD ((wnd a0 a2 a5 hl M.length).length - 1) [] ∈ wnd a0 a2 a5 hl M.length := by
          rw [List.getD_eq_getElem?_getD, List.getElem?_eq_getElem (by omega), Option.getD_some]
          exact List.getElem_mem _
        have hch : Qf.chainB a0 a1 a2 a3 a4 a5 ((wnd a0 a2 a5 hl M.length).take ((wnd a0 a2 a5 hl M.length).length - 1)).reverse ((wnd a0 a2 a5 hl M.length).getD ((wnd a0 a2 a5 hl M.length).length - 1) []) = some (rootT a0 a2 a3 a5 hl M.length) := by
          rw [toyB a0 a1 a2 a3 a4 a5 _ _ (fun y hy => by have := hmm y (List.mem_of_mem_take (List.mem_reverse.1 hy)); omega) (by have := hmm _ hgd; rw [List.length_reverse, List.length_take]; omega)]
          unfold rootT
          rw [if_neg hz]
        refine Qf.hashAt_calls a0 a1 a2 a3 a4 a5 w0 gt S w1 _ vh rv _ M.length k ((wnd a0 a2 a5 hl M.length).length - 1) ((rightN 64 M.length M.length).map mk108) _ hT hz HG hk (by rw [hwl]; omega) (by omega) (fun i hi => ?_) (by rw [hmap]; exact hch)
        rw [List.length_map] at hi
        refine ⟨((rightN 64 M.length M.length)[i]).1, ((rightN 64 M.length M.length)[i]).2, ?_, ?_, ?_⟩
        · rw [List.getD_eq_getElem?_getD, List.getElem?_eq_getElem (by rw [List.length_map]; exact hi), Option.getD_some, List.getElem_map]
          rfl
        · rw [rsN_len]
          exact lt_bl.2 (hok.1 _ (List.getElem_mem hi)).1
        · rw [rsN_row]
          exact (hok.1 _ (List.getElem_mem hi)).2 }
theorem bytes_of {L : List (List Int)} (h : ∀ x ∈ L, ∀ n ∈ x, (Lit.int .u8 n).wf = true) : ∀ x ∈ L, Bt x := fun x hx => bt_of (h x hx)
theorem same_roots (a0 a2 a3 a4 a5 : Int) (h0 : a0 ≠ 1) (L M : List (List Int)) (hlm : L.length = M.length) (h300 : L.length ≤ 300) (rL : ∀ x ∈ L, x.length ≤ 5000) (rM : ∀ x ∈ M, x.length ≤ 5000) (bL : ∀ x ∈ L, Bt x) (bM : ∀ x ∈ M, Bt x) :
    Qf.spec_SameText.f (rootT a0 a2 a3 a5 (fun j => leafF a0 a2 a4 (L.getD j [])) L.length) (rootT a0 a2 a3 a5 (fun j => leafF a0 a2 a4 (M.getD j [])) M.length) = some (sameF L M) := by
  have gd : ∀ (W : List (List Int)) (P : List Int → Prop), P [] → (∀ x ∈ W, P x) → ∀ j, P (W.getD j []) := fun W P hn hW j => by
    rw [List.getD_eq_getElem?_getD]
    rcases h : W[j]? with _ | y
    · exact hn
    · exact hW y (List.mem_of_getElem? h)
  have hl1 : ∀ (W : List (List Int)), (∀ x ∈ W, x.length ≤ 5000) → ∀ j, ((fun j => leafF a0 a2 a4 (W.getD j [])) j).length ≤ 5010 := fun W hW j => leafF_len a0 a2 a4 _ (gd W (fun x => x.length ≤ 5000) (by simp) hW j)
  have hb1 : ∀ (W : List (List Int)), (∀ x ∈ W, Bt x) → ∀ j, Bt ((fun j => leafF a0 a2 a4 (W.getD j [])) j) := fun W hW j => leafF_bt a0 a2 a4 (gd W Bt (fun x hx => by simp at hx) hW j)
  show some (eqB _ _) = _
  refine congrArg some ?_
  by_cases h : L = M
  · subst h
    rw [sameF_self, eqB_self]
  · have hz : L.length ≠ 0 := fun hz => h (by
      have h1 := List.length_eq_zero_iff.1 hz
      have h2 := List.length_eq_zero_iff.1 (hlm ▸ hz)
      rw [h1, h2])
    rw [sameF_iff bL bM, decide_eq_false h]
    rcases he : eqB (rootT a0 a2 a3 a5 (fun j => leafF a0 a2 a4 (L.getD j [])) L.length) (rootT a0 a2 a3 a5 (fun j => leafF a0 a2 a4 (M.getD j [])) M.length) with _ | _
    · rfl
    · exfalso
      apply h
      rw [← hlm] at he
      have e1 := eqB_eq (rootT_bt (hb1 L bL) L.length hz) (rootT_bt (hb1 M bM) L.length hz) he
      have e2 := rootT_inj h0 (hl1 L rL) (hl1 M rM) L.length h300 hz e1
      refine List.ext_getElem hlm fun i h1 h2 => ?_
      have e3 := e2 i h1
      unfold leafF at e3
      rw [if_neg h0, if_neg h0] at e3
      have e4 := List.append_cancel_left e3
      rw [List.getD_eq_getElem?_getD, List.getD_eq_getElem?_getD, List.getElem?_eq_getElem h1, List.getElem?_eq_getElem h2] at e4
      exact e4
theorem dataTell (a0 a1 a2 a3 a4 a5 : Int) (A : Option Addr) (c : Nat) (L : List (List Int)) (A2 : Option Addr) (c2 : Nat) (M : List (List Int)) (w : World) (hl : CL w A L) (hc : L.length ≤ c) (hm : CL w A2 M) (hc2 : M.length ≤ c2) (bL : ∀ x ∈ L, ∀ n ∈ x, (Lit.int .u8 n).wf = true) (bM : ∀ x ∈ M, ∀ n ∈ x, (Lit.int .u8 n).wf = true) (HG : Glob w) :
    Calls Tryd.prog 3 #[.agg #[.int .i64 a0, .int .i64 a1, .int .i64 a2, .int .u64 a3, .int .u64 a4, .int .u64 a5], .slice A L.length c, .slice A2 M.length c2] w fun e w' => e = .returned (.bool true) ∧ Below w.heap.size w w' := by
  obtain ⟨K, hK⟩ : ∃ K, K = 2147483648 := ⟨_, rfl⟩
  obtain ⟨z1, hz1, l1⟩ := zz_f L K (by omega)
  cases z1 with
  | false => exact Qf.dt1 K a0 a1 a2 a3 a4 a5 A c L A2 c2 M w hl hc hm hc2 hz1
  | true =>
  obtain ⟨z2, hz2, l2⟩ := zz_f M K (by omega)
  cases z2 with
  | false => exact Qf.dt2 K a0 a1 a2 a3 a4 a5 A c L A2 c2 M w hl hc hm hc2 hz1 hz2
  | true =>
  by_cases h0 : a0 = 1
  · exact Qf.dt3 K a0 a1 a2 a3 a4 a5 A c L A2 c2 M w hl hc hm hc2 hz1 hz2 (by unfold Qf.spec_Terms.f; rw [bne_eq_false_iff_eq.2 h0])
  have htt : Qf.spec_Terms.f a0 a1 a2 a3 a4 a5 = some true := by
    unfold Qf.spec_Terms.f
    rw [bne_iff_ne.2 h0]
  obtain ⟨s1, hs1, m1⟩ := small_f L (l1 rfl) K (by omega)
  cases s1 with
  | false => exact Qf.dt4 K a0 a1 a2 a3 a4 a5 A c L A2 c2 M w hl hc hm hc2 hz1 hz2 htt hs1
  | true =>
  obtain ⟨s2, hs2, m2⟩ := small_f M (l2 rfl) K (by omega)
  cases s2 with
  | false => exact Qf.dt5 K a0 a1 a2 a3 a4 a5 A c L A2 c2 M w hl hc hm hc2 hz1 hz2 htt hs1 hs2
  | true =>
  obtain ⟨h300, rL⟩ := m1 rfl
  obtain ⟨g300, rM⟩ := m2 rfl
  by_cases hlm : L.length = M.length
  · exact Qf.dt6 K a0 a1 a2 a3 a4 a5 A c L A2 c2 M w hl hc hm hc2 hz1 hz2 htt hs1 hs2 HG 1000 _ _ _ _ _ _ (tdOk_of a0 a1 a2 a3 a4 a5 L rL h300) (tdOk_of a0 a1 a2 a3 a4 a5 M rM g300) hlm (same_roots a0 a2 a3 a4 a5 h0 L M hlm h300 rL rM (bytes_of bL) (bytes_of bM))
  · exact Qf.dt7 K a0 a1 a2 a3 a4 a5 A c L A2 c2 M w hl hc hm hc2 hz1 hz2 htt hs1 hs2 HG 1000 _ _ _ _ _ _ (tdOk_of a0 a1 a2 a3 a4 a5 L rL h300) (tdOk_of a0 a1 a2 a3 a4 a5 M rM g300) hlm
end Go.Proofs.YtfhcpniibiobgaaDoor.Pure
