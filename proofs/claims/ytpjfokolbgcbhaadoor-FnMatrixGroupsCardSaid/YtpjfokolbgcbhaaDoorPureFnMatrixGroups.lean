/- Products of three matrices do not depend on the grouping: the plain law. -/
import Derived.Test.YtpjfokolbgcbhaaDoorPureMul
namespace Go.Proofs.YtpjfokolbgcbhaaDoor.Pure
open Go.RowKit Go.Proofs.YtpjfokolbgcbhaaDoor Go.Proofs.YtpjfokolbgcbhaaDoor.Qm Go.Proofs.YtpjfokolbgcbhaaDoorW.PrintWords Go.Proofs.YtpjfokolbgcbhaaDoorW.PrintLast Go.Proofs.YtpjfokolbgcbhaaDoor.QmP

/-- At most 40 rows of at most 40 entries. -/
def Small (L : List (List Int)) : Prop := L.length ≤ 40 ∧ ∀ r ∈ L, r.length ≤ 40
theorem mod_in (Ls : List (List (List Int))) (i : Nat) (L : List (List Int)) (hL : L.length ≤ 2147483647) (hi : i ≤ 100) (k0 : Nat) (h : ∀ k, k0 ≤ k → ∃ b, laws_moderate.l0 k Ls (Ls.length : Int) ((i + 1 : Nat) : Int) = some b ∧ (b = true → ∀ M ∈ Ls.drop (i + 1), Small M)) : ∀ (d j k : Nat), j + d = L.length → k0 + d + 1 ≤ k →
    ∃ b, laws_moderate.l1 k Ls (Ls.length : Int) (i : Int) L (L.length : Int) (j : Int) = some b ∧ (b = true → (∀ r ∈ L.drop j, r.length ≤ 40) ∧ ∀ M ∈ Ls.drop (i + 1), Small M)
  | 0, j, k, hj, hk => by
    obtain ⟨k, rfl⟩ : ∃ k', k = k' + 1 := ⟨k - 1, by omega⟩
    obtain ⟨b, hb, ht⟩ := h k (by omega)
    simp only [laws_moderate.l1]
    rw [if_neg (by omega), w64 (by omega) (by omega)]
    exact ⟨b, hb, fun e => ⟨(fun r hr => by rw [List.drop_eq_nil_of_le (by omega)] at hr; cases hr), ht e⟩⟩
  | d + 1, j, k, hj, hk => by
    obtain ⟨k, rfl⟩ : ∃ k', k = k' + 1 := ⟨k - 1, by omega⟩
    have hjl : j < L.length := by omega
    simp only [laws_moderate.l1]
    rw [if_pos (by omega), if_pos (by omega), if_pos (by omega), rd_at L j hjl]
    by_cases h40 : (L[j].length : Int) > 40
    · rw [if_pos h40]
      exact ⟨false, rfl, fun e => by cases e⟩
    · rw [if_neg h40, w64 (by omega) (by omega)]
      obtain ⟨b, hb, ht⟩ := mod_in Ls i L hL hi k0 h d (j + 1) k (by omega) (by omega)
      refine ⟨b, hb, fun e => ⟨fun r hr => ?_, (ht e).2⟩⟩
      rw [List.drop_eq_getElem_cons hjl] at hr
      rcases List.mem_cons.1 hr with rfl | hr
      · omega
      · exact (ht e).1 r hr
theorem mod_out (Ls : List (List (List Int))) (hn : Ls.length ≤ 50) (hL : ∀ L ∈ Ls, L.length ≤ 2147483647) : ∀ (d i : Nat), i + d = Ls.length →
    ∃ k0, ∀ k, k0 ≤ k → ∃ b, laws_moderate.l0 k Ls (Ls.length : Int) (i : Int) = some b ∧ (b = true → ∀ M ∈ Ls.drop i, Small M)
  | 0, i, hi => ⟨1, fun k hk => by
    obtain ⟨k, rfl⟩ : ∃ k', k = k' + 1 := ⟨k - 1, by omega⟩
    simp only [laws_moderate.l0]
    rw [if_neg (by omega)]
    exact ⟨true, rfl, fun _ M hM => by rw [List.drop_eq_nil_of_le (by omega)] at hM; cases hM⟩⟩
  | d + 1, i, hi => by
    obtain ⟨k0, h0⟩ := mod_out Ls hn hL d (i + 1) (by omega)
    have hil : i < Ls.length := by omega
    have hx : rd_L2 Ls (i : Int) = Ls[i] := by
      unfold rd_L2
      rw [Int.toNat_natCast, List.getD_eq_getElem?_getD, List.getElem?_eq_getElem hil]
      rfl
    have hl := hL Ls[i] (List.getElem_mem hil)
    refine ⟨k0 + Ls[i].length + 3, fun k hk => ?_⟩
    obtain ⟨k, rfl⟩ : ∃ k', k = k' + 1 := ⟨k - 1, by omega⟩
    simp only [laws_moderate.l0]
    rw [if_pos (by omega), if_pos (by omega), if_pos (by omega), hx]
    by_cases h40 : (Ls[i].length : Int) > 40
    · rw [if_pos h40]
      exact ⟨false, rfl, fun e => by cases e⟩
    · rw [if_neg h40]
      obtain ⟨b, hb, ht⟩ := mod_in Ls i Ls[i] hl (by omega) k0 h0 Ls[i].length 0 k (by omega) (by omega)
      refine ⟨b, hb, fun e M hM => ?_⟩
      rw [List.drop_eq_getElem_cons hil] at hM
      rcases List.mem_cons.1 hM with rfl | hM
      · exact ⟨by omega, fun r hr => (ht e).1 r (by rw [List.drop_zero]; exact hr)⟩
      · exact (ht e).2 M hM
theorem moderate_f (Ls : List (List (List Int))) (hn : Ls.length ≤ 50) (hL : ∀ L ∈ Ls, L.length ≤ 2147483647) : ∃ k0, ∀ k, k0 ≤ k → ∃ b, laws_moderate.f k Ls = some b ∧ (b = true → ∀ M ∈ Ls, Small M) := by
  obtain ⟨k0, h⟩ := mod_out Ls hn hL Ls.length 0 (by omega)
  exact ⟨k0, fun k hk => by
    obtain ⟨b, hb, ht⟩ := h k hk
    exact ⟨b, hb, fun e M hM => ht e M (by rw [List.drop_zero]; exact hM)⟩⟩

def Bytes (L : List (List Int)) : Prop := ∀ r ∈ L, ∀ x ∈ r, 0 ≤ x ∧ x < 256
theorem bytes_of {L : List (List Int)} (h : ∀ r ∈ L, ∀ n ∈ r, (Lit.int .u8 n).wf = true) : Bytes L := fun r hr x hx => by
  have := bounds_u8 (h r hr x hx)
  omega
theorem rect_pos {L : List (List Int)} (h : Rect L) : 0 < L.length := by
  rcases L with _ | ⟨r, L⟩
  · have := h.1; simp [colN] at this
  · simp
theorem rect_mat {L : List (List Int)} (h : Rect L) (hs : Small L) (hb : Bytes L) : ∃ M : Nat → Nat → Nat, (∀ i, B8 (M i)) ∧ L = mat L.length (colN L) M ∧ 0 < L.length ∧ L.length ≤ 40 ∧ 0 < colN L ∧ colN L ≤ 40 := by
  obtain ⟨M, h8, e⟩ := mat_of L (colN L) h.2 hb
  have hp := rect_pos h
  refine ⟨M, h8, e, hp, hs.1, h.1, ?_⟩
  have := hs.2 L[0] (List.getElem_mem hp)
  rw [h.2 L[0] (List.getElem_mem hp)] at this
  exact this
theorem prod_lt (m : Nat) (A B : Nat → Nat → Nat) : ∀ i, B8 (prod m A B i) := fun _ _ => dot_lt _ _ _
theorem uni_lt : ∀ i, B8 (uni i) := fun i j => by
  unfold uni
  split <;> omega
theorem groups_f (a b c : List (List Int)) (ha : Bytes a) (hb : Bytes b) (hc : Bytes c) : ∃ k, laws_FnMatrixGroups.f k a b c = some true := by
  have j0t : ∀ k, laws_FnMatrixGroups.j0 (k + 1) a b c true = some true := fun k => by rw [laws_FnMatrixGroups.j0]; rfl
  have j1t : ∀ k, laws_FnMatrixGroups.j1 (k + 1) a b c true = some true := fun k => by rw [laws_FnMatrixGroups.j1]; rfl
  obtain ⟨Z, hZ⟩ : ∃ Z, Z = 2147483748 := ⟨_, rfl⟩
  obtain ⟨za, hza, ta⟩ := zz_f a Z (by omega)
  obtain ⟨zb, hzb, tb⟩ := zz_f b Z (by omega)
  obtain ⟨zc, hzc, tc⟩ := zz_f c Z (by omega)
  have up : ∀ {L : List (List Int)} {z : Bool} {k : Nat}, Z ≤ k → laws_zzFits2.f Z L = some z → laws_zzFits2.f k L = some z := fun hk h => at_rounds (laws_zzFits2.mono _) hk h
  cases za
  · refine ⟨Z + 1, ?_⟩
    unfold laws_FnMatrixGroups.f
    rw [up (by omega) hza, Option.bind_some, if_neg (by simp)]
    exact j0t _
  cases zb
  · refine ⟨Z + 1, ?_⟩
    unfold laws_FnMatrixGroups.f
    rw [up (by omega) hza, Option.bind_some, if_pos rfl, up (by omega) hzb, Option.bind_some, if_neg (by simp)]
    exact j0t _
  cases zc
  · refine ⟨Z + 1, ?_⟩
    unfold laws_FnMatrixGroups.f
    rw [up (by omega) hza, Option.bind_some, if_pos rfl, up (by omega) hzb, Option.bind_some, if_pos rfl, up (by omega) hzc, Option.bind_some]
    exact j0t _
  obtain ⟨k0, hk0⟩ := moderate_f [a, b, c] (by simp) (fun L hL => by
    simp only [List.mem_cons, List.not_mem_nil, or_false] at hL
    rcases hL with rfl | rfl | rfl
    · exact ta rfl
    · exact tb rfl
    · exact tc rfl)
  obtain ⟨K, hK⟩ : ∃ K, K = Z + k0 + 200000 := ⟨_, rfl⟩
  have head : ∀ k, Z ≤ k → laws_FnMatrixGroups.f k a b c = laws_FnMatrixGroups.j0 k a b c false := fun k hk => by
    unfold laws_FnMatrixGroups.f
    rw [up hk hza, Option.bind_some, if_pos rfl, up hk hzb, Option.bind_some, if_pos rfl, up hk hzc, Option.bind_some]
    rfl
  refine ⟨K + 1 + 1, ?_⟩
  rw [head _ (by omega), laws_FnMatrixGroups.j0, if_neg (by simp)]
  obtain ⟨mb, hmb, tm⟩ := hk0 (K + 1) (by omega)
  have hm3 : laws_moderate3.f (K + 1) a b c = some mb := hmb
  rw [hm3, Option.bind_some]
  cases mb
  · rw [if_neg (by simp)]; exact j1t _
  rw [if_pos rfl]
  have sa := tm rfl a (by simp)
  have sb := tm rfl b (by simp)
  have sc := tm rfl c (by simp)
  obtain ⟨ra, hra, tra⟩ := rect_f a (ta rfl) (K + 1) (by have := ta rfl; omega)
  obtain ⟨rb, hrb, trb⟩ := rect_f b (tb rfl) (K + 1) (by have := tb rfl; omega)
  obtain ⟨rc, hrc, trc⟩ := rect_f c (tc rfl) (K + 1) (by have := tc rfl; omega)
  rw [hra, Option.bind_some]
  cases ra
  · rw [if_neg (by simp)]; exact j1t _
  rw [if_pos rfl, hrb, Option.bind_some]
  cases rb
  · rw [if_neg (by simp)]; exact j1t _
  rw [if_pos rfl, hrc, Option.bind_some]
  cases rc
  · rw [if_neg (by simp)]; exact j1t _
  rw [if_pos rfl, cols_f, Option.bind_some]
  by_cases e1 : (colN a : Int) = (b.length : Int)
  case neg => rw [if_neg e1]; exact j1t _
  rw [if_pos e1, cols_f, Option.bind_some]
  by_cases e2 : (colN b : Int) = (c.length : Int)
  case neg =>
    rw [show ((colN b : Int) != (c.length : Int)) = true by simpa using e2]
    exact j1t _
  rw [show ((colN b : Int) != (c.length : Int)) = false by simpa using e2, laws_FnMatrixGroups.j1, if_neg (by simp)]
  obtain ⟨A, hA, eA, a1, a2, a3, a4⟩ := rect_mat (tra.1 rfl) sa ha
  obtain ⟨B, hB, eB, b1, b2, b3, b4⟩ := rect_mat (trb.1 rfl) sb hb
  obtain ⟨C, hC, eC, c1, c2, c3, c4⟩ := rect_mat (trc.1 rfl) sc hc
  have e1' : colN a = b.length := by omega
  have e2' : colN b = c.length := by omega
  rw [e1'] at eA
  rw [e2'] at eB
  generalize a.length = n at *
  generalize b.length = m at *
  generalize c.length = p at *
  generalize colN c = q at *
  subst eA eB eC
  have hKK : 100010 ≤ K := by omega
  rw [multiply_of n m p A B hA hB (by omega) (by omega) (by omega) (by omega) (by omega) (by omega) K hKK, Option.bind_some,
    multiply_of m p q B C hB hC (by omega) (by omega) (by omega) (by omega) (by omega) (by omega) K hKK, Option.bind_some,
    multiply_of n p q _ C (prod_lt _ _ _) hC (by omega) (by omega) (by omega) (by omega) (by omega) (by omega) K hKK, Option.bind_some,
    multiply_of n m q A _ hA (prod_lt _ _ _) (by omega) (by omega) (by omega) (by omega) (by omega) (by omega) K hKK, Option.bind_some]
  rw [identity_of m (by omega) (by omega) K (by omega), Option.bind_some,
    multiply_of n m m A uni hA uni_lt (by omega) (by omega) (by omega) (by omega) (by omega) (by omega) K hKK, Option.bind_some,
    multiply_of m m p uni B uni_lt hB (by omega) (by omega) (by omega) (by omega) (by omega) (by omega) K hKK, Option.bind_some]
  have q1 : spec_EqualMatrices.f K (mat n q (prod p (prod m A B) C)) (mat n q (prod m A (prod p B C))) = some true := equal_of n q _ _ (by omega) (by omega) (fun i _ j _ => by
    show dot (fun l => dot (A i) (fun k => B k l) m) (fun l => C l j) p = dot (A i) (fun k => dot (B k) (fun l => C l j) p) m
    exact dot_dot (A i) B (fun l => C l j) (hA i) hB (fun l => hC l j) m p) K (by omega)
  have q2 : spec_EqualMatrices.f K (mat n m (prod m A uni)) (mat n m A) = some true := equal_of n m _ _ (by omega) (by omega) (fun i _ j hj => by
    show dot (A i) (fun k => uni k j) m = A i j
    exact dot_one (A i) (hA i) j m hj (by unfold uni; rw [if_pos rfl]) (fun t _ hne => by unfold uni; rw [if_neg hne])) K (by omega)
  have q3 : spec_EqualMatrices.f K (mat m p (prod m uni B)) (mat m p B) = some true := equal_of m p _ _ (by omega) (by omega) (fun i hi j _ => by
    show dot (uni i) (fun k => B k j) m = B i j
    rw [dot_comm]
    exact dot_one (fun k => B k j) (fun k => hB k j) i m hi (by unfold uni; rw [if_pos rfl]) (fun t _ hne => by unfold uni; rw [if_neg (fun e => hne e.symm)])) K (by omega)
  dsimp only
  simp only [if_true]
  rw [q1, Option.bind_some, if_pos rfl, q2, Option.bind_some, if_pos rfl, q3, Option.bind_some]
end Go.Proofs.YtpjfokolbgcbhaaDoor.Pure
