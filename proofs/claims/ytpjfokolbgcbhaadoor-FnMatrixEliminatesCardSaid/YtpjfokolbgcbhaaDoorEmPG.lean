/- Products of three matrices do not depend on the grouping: the plain law. -/
import Derived.Test.YtpjfokolbgcbhaaDoorEmPM
namespace Go.Proofs.YtpjfokolbgcbhaaDoor.Pure
open Go.RowKit Go.Proofs.YtpjfokolbgcbhaaDoor Go.Proofs.YtpjfokolbgcbhaaDoor.Qm Go.Proofs.YtpjfokolbgcbhaaDoorW.PrintWords Go.Proofs.YtpjfokolbgcbhaaDoorW.PrintLast Go.Proofs.YtpjfokolbgcbhaaDoor.QmP

/-- At most 40 rows of at most 40 entries. -/
def Small (L : List (List Int)) : Prop := L.length ≤ 40 ∧ ∀ r ∈ L, r.length ≤ 40
theorem mod_in (Ls : List (List (List Int))) (i : Nat) (L : List (List Int)) (hL : L.length ≤ 2147483647) (hi : i ≤ 100) (k0 : Nat) (h : ∀ k, k0 ≤ k → ∃ b, laws_moderate.l0 k Ls (Ls.length : Int) ((i + 1 : Nat) : Int) = some b ∧ (b = true → ∀ M ∈ Ls.drop (i + 1), Small M)) : ∀ (d j k : Nat), j + d = L.length → k0 + d + 1 ≤ k →
    ∃ b, laws_moderate.l1 k Ls (Ls.length : Int) (i : Int) L (L.length : Int) (j : Int) = some b ∧ (b = true → (∀ r ∈ L.drop j, r.length ≤ 40) ∧ ∀ M ∈ Ls.drop (i + 1), Small M)
  | 0, j, k, hj, hk => by
    obtain ⟨k, rfl⟩ : ∃ k', k = k' + 1 := ⟨k - 1, by omega⟩
    obtain ⟨b, hb, ht⟩ := h k (by omega)
    simp only [laws_moderate.l1]
    rw [if_neg (by omega), w64 (by omega) (by omega)]
    exact ⟨b, hb, fun e => ⟨(fun r hr => by rw [List.drop_eq_nil_of_le (by omega)] at hr; cases hr), ht e⟩⟩
  | d + 1, j, k, hj, hk => by
    obtain ⟨k, rfl⟩ : ∃ k', k = k' + 1 := ⟨k - 1, by omega⟩
    have hjl : j < L.length := by omega
    simp only [laws_moderate.l1]
    rw [if_pos (by omega), if_pos (by omega), if_pos (by omega), rd_at L j hjl]
    by_cases h40 : (L[j].length : Int) > 40
    · rw [if_pos h40]
      exact ⟨false, rfl, fun e => by cases e⟩
    · rw [if_neg h40, w64 (by omega) (by omega)]
      obtain ⟨b, hb, ht⟩ := mod_in Ls i L hL hi k0 h d (j + 1) k (by omega) (by omega)
      refine ⟨b, hb, fun e => ⟨fun r hr => ?_, (ht e).2⟩⟩
      rw [List.drop_eq_getElem_cons hjl] at hr
      rcases List.mem_cons.1 hr with rfl | hr
      · omega
      · exact (ht e).1 r hr
theorem mod_out (Ls : List (List (List Int))) (hn : Ls.length ≤ 50) (hL : ∀ L ∈ Ls, L.length ≤ 2147483647) : ∀ (d i : Nat), i + d = Ls.length →
    ∃ k0, ∀ k, k0 ≤ k → ∃ b, laws_moderate.l0 k Ls (Ls.length : Int) (i : Int) = some b ∧ (b = true → ∀ M ∈ Ls.drop i, Small M)
  | 0, i, hi => ⟨1, fun k hk => by
    obtain ⟨k, rfl⟩ : ∃ k', k = k' + 1 := ⟨k - 1, by omega⟩
    simp only [laws_moderate.l0]
    rw [if_neg (by omega)]
    exact ⟨true, rfl, fun _ M hM => by rw [List.drop_eq_nil_of_le (by omega)] at hM; cases hM⟩⟩
  | d + 1, i, hi => by
    obtain ⟨k0, h0⟩ := mod_out Ls hn hL d (i + 1) (by omega)
    have hil : i < Ls.length := by omega
    have hx : rd_L2 Ls (i : Int) = Ls[i] := by
      unfold rd_L2
      rw [Int.toNat_natCast, List.getD_eq_getElem?_getD, List.getElem?_eq_getElem hil]
      rfl
    have hl := hL Ls[i] (List.getElem_mem hil)
    refine ⟨k0 + Ls[i].length + 3, fun k hk => ?_⟩
    obtain ⟨k, rfl⟩ : ∃ k', k = k' + 1 := ⟨k - 1, by omega⟩
    simp only [laws_moderate.l0]
    rw [if_pos (by omega), if_pos (by omega), if_pos (by omega), hx]
    by_cases h40 : (Ls[i].length : Int) > 40
    · rw [if_pos h40]
      exact ⟨false, rfl, fun e => by cases e⟩
    · rw [if_neg h40]
      obtain ⟨b, hb, ht⟩ := mod_in Ls i Ls[i] hl (by omega) k0 h0 Ls[i].length 0 k (by omega) (by omega)
      refine ⟨b, hb, fun e M hM => ?_⟩
      rw [List.drop_eq_getElem_cons hil] at hM
      rcases List.mem_cons.1 hM with rfl | hM
      · exact ⟨by omega, fun r hr => (ht e).1 r (by rw [List.drop_zero]; exact hr)⟩
      · exact (ht e).2 M hM
theorem moderate_f (Ls : List (List (List Int))) (hn : Ls.length ≤ 50) (hL : ∀ L ∈ Ls, L.length ≤ 2147483647) : ∃ k0, ∀ k, k0 ≤ k → ∃ b, laws_moderate.f k Ls = some b ∧ (b = true → ∀ M ∈ Ls, Small M) := by
  obtain ⟨k0, h⟩ := mod_out Ls hn hL Ls.length 0 (by omega)
  exact ⟨k0, fun k hk => by
    obtain ⟨b, hb, ht⟩ := h k hk
    exact ⟨b, hb, fun e M hM => ht e M (by rw [List.drop_zero]; exact hM)⟩⟩

def Bytes (L : List (List Int)) : Prop := ∀ r ∈ L, ∀ x ∈ r, 0 ≤ x ∧ x < 256
theorem bytes_of {L : List (List Int)} (h : ∀ r ∈ L, ∀ n ∈ r, (Lit.int .u8 n).wf = true) : Bytes L := fun r hr x hx => by
  have := bounds_u8 (h r hr x hx)
  omega
theorem rect_pos {L : List (List Int)} (h : Rect L) : 0 < L.length := by
  rcases L with _ | ⟨r, L⟩
  · have := h.1; simp [colN] at this
  · simp
theorem rect_mat {L : List (List Int)} (h : Rect L) (hs : Small L) (hb : Bytes L) : ∃ M : Nat → Nat → Nat, (∀ i, B8 (M i)) ∧ L = mat L.length (colN L) M ∧ 0 < L.length ∧ L.length ≤ 40 ∧ 0 < colN L ∧ colN L ≤ 40 := by
  obtain ⟨M, h8, e⟩ := mat_of L (colN L) h.2 hb
  have hp := rect_pos h
  refine ⟨M, h8, e, hp, hs.1, h.1, ?_⟩
  have := hs.2 L[0] (List.getElem_mem hp)
  rw [h.2 L[0] (List.getElem_mem hp)] at this
  exact this
theorem prod_lt (m : Nat) (A B : Nat → Nat → Nat) : ∀ i, B8 (prod m A B i) := fun _ _ => dot_lt _ _ _
theorem uni_lt : ∀ i, B8 (uni i) := fun i j => by
  unfold uni
  split <;> omega
end Go.Proofs.YtpjfokolbgcbhaaDoor.Pure
