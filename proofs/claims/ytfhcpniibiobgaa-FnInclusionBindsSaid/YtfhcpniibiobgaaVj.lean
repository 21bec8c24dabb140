/- impl.VerifyInclusion, as a function of its arguments. -/
import Derived.Test.YtfhcpniibiobgaaVi
namespace Go.Proofs.Ytfhcpniibiobgaa.Qf
open Go.RowKit Go.Proofs.YtfhcpniibiobgaaW.PrintWords Go.Proofs.YtfhcpniibiobgaaW.PrintLast Go.Proofs.YtfhcpniibiobgaaW.PrintMore
open Hs (CB CL at_L at_B infoB infoL R_of_blk)

theorem texts_go (L : List (List Int)) (hL : L.length ≤ 5864062014804) (hrow : ∀ x ∈ L, x.length < 140737488355328) : ∀ (m j k : Nat), j + m = L.length → m < k → impl_texts.l0 k (L.take j) L (L.length : Int) (j : Int) = some L
  | 0, j, k + 1, h, _ => by
    unfold impl_texts.l0
    rw [if_neg (by omega), List.take_of_length_le (by omega)]
  | m + 1, j, k + 1, h, hk => by
    have hj : j < L.length := by omega
    have hx : rd_L1 L (j : Int) = L[j] := by
      show L.getD (j : Int).toNat [] = L[j]
      rw [Int.toNat_natCast, List.getD_eq_getElem?_getD, List.getElem?_eq_getElem hj]
      rfl
    unfold impl_texts.l0
    rw [if_pos (by omega), if_pos (by omega), if_pos (by omega), Option.bind_some, hx, List.nil_append, if_pos (by have := hrow L[j] (List.getElem_mem hj); simpa using this), if_pos (by rw [List.length_take]; omega), ← List.take_succ_eq_append_getElem hj, w64_in _ (by omega), show ((j : Int) + 1) = ((j + 1 : Nat) : Int) by omega]
    exact texts_go L hL hrow m (j + 1) k (by omega) (by omega)
theorem texts_ok (L : List (List Int)) (hL : L.length ≤ 5864062014804) (hrow : ∀ x ∈ L, x.length < 140737488355328) : impl_texts.f (L.length + 1) L = some L := texts_go L hL hrow L.length 0 (L.length + 1) (by omega) (by omega)

/-- What impl.VerifyInclusion answers. -/
def viF (a0 a1 a2 a3 a4 a5 ix sz : Int) (l1 : List Int) (L : List (List Int)) (l3 : List Int) : Option (Int × List Int) :=
  if l1.length ≤ 140737488351232 ∧ l3.length ≤ 140737488351232 ∧ L.length ≤ 5864062014804 ∧ (∀ x ∈ L, x.length < 140737488355328) then
    if sz ≤ ix then some (2, []) else if (l1.length : Int) ≠ a1 then some (2, []) else
    (proof_decompInclProof.f ix sz).bind fun ib =>
      if 0 ≤ ib.1 ∧ ib.1 ≤ 64 ∧ 0 ≤ ib.2 ∧ ib.2 ≤ 64 then
        if (L.length : Int) ≠ ib.1 + ib.2 then some (2, []) else
        (chainI a0 a1 a2 a3 a4 a5 ix (L.take ib.1.toNat) l1 0).bind fun r1 =>
        (chainB a0 a1 a2 a3 a4 a5 (L.drop ib.1.toNat) r1).bind fun r =>
        if sameB r l3 then some (0, []) else if r.length ≤ 140737488351232 then some (1, r) else none
      else none
  else none

theorem nilR (W : World) (b : Nat) : Kd.R (Kd.int .u8) 5 W b (fun _ => True) (.slice none 0 0) ([] : List Int) :=
  ⟨fun _ _ => trivial, [], World.ownsRow_nil W b 5 1, Reps.none _ _⟩

set_option maxHeartbeats 1000000 in
theorem viF_calls (a0 a1 a2 a3 a4 a5 ix sz : Int) (A1 : Option Addr) (c1 : Nat) (l1 : List Int) (A2 : Option Addr) (c2 : Nat) (L : List (List Int)) (A3 : Option Addr) (c3 : Nat) (l3 : List Int) (r1 : Int) (r2 : List Int) (w : World)
    (h1 : CB w A1 l1) (h2 : CL w A2 L) (hc2 : L.length ≤ c2) (h3 : CB w A3 l3) (h : viF a0 a1 a2 a3 a4 a5 ix sz l1 L l3 = some (r1, r2)) :
    Calls Try.prog 8 #[.agg #[.int .i64 a0, .int .i64 a1, .int .i64 a2, .int .u64 a3, .int .u64 a4, .int .u64 a5], .int .u64 ix, .int .u64 sz, .slice A1 l1.length c1, .slice A2 L.length c2, .slice A3 l3.length c3] w fun e w' => ∃ v2, e = .returned (.tuple #[.int .i64 r1, v2]) ∧ Kd.R (Kd.int .u8) 5 w' w.heap.size (fun _ => True) v2 r2 ∧ Below w.heap.size w w' := by
  unfold viF at h
  by_cases hb : l1.length ≤ 140737488351232 ∧ l3.length ≤ 140737488351232 ∧ L.length ≤ 5864062014804 ∧ (∀ x ∈ L, x.length < 140737488355328)
  case neg => rw [if_neg hb] at h; cases h
  rw [if_pos hb] at h
  obtain ⟨hl1, hl3, hLl, hrow⟩ := hb
  refine implVI_of a0 a1 a2 a3 a4 a5 ix sz A1 c1 l1 A2 c2 L A3 c3 l3 w h1 h2 h3 hl1 hl3 hc2 (L.length + 1) (texts_ok L hLl hrow) r1 r2 fun W B1 d1 B2 d2 B3 d3 k1 kd1 k2 kd2 k3 kd3 => ?_
  have err : (r1, r2) = (2, ([] : List Int)) → (Calls Try.prog 21 #[toyV a0 a1 a2 a3 a4 a5, .int .u64 ix, .int .u64 sz, .slice B1 l1.length d1, .slice B2 L.length d2] W fun e w' => ∃ x, e = .returned (.tuple #[.slice none 0 0, .iface 68 (.pointer (some x))]) ∧ Below W.heap.size W w') → (Calls Try.prog 16 #[toyV a0 a1 a2 a3 a4 a5, .int .u64 ix, .int .u64 sz, .slice B1 l1.length d1, .slice B2 L.length d2, .slice B3 l3.length d3] W fun e W' => ∃ v, e = .returned v ∧ Below W.heap.size W W' ∧
        Calls Try.prog 15 #[v] W' fun e' W'' => ∃ v2, e' = .returned (.tuple #[.int .i64 r1, v2]) ∧ Kd.R (Kd.int .u8) 5 W'' W'.heap.size (fun _ => True) v2 r2 ∧ Below W'.heap.size W' W'') := fun he hc =>
    (vi_err a0 a1 a2 a3 a4 a5 ix sz B1 d1 l1.length B2 d2 L.length B3 d3 l3.length W hc).mono fun e W' ⟨x, he', hbl⟩ => ⟨_, he', hbl, (verdict_err x W').mono fun e2 W2 ⟨he2, hb2⟩ => by
      obtain ⟨rfl, rfl⟩ := Prod.mk.inj he
      exact ⟨_, he2, nilR _ _, hb2⟩⟩
  by_cases hlt : sz ≤ ix
  · rw [if_pos hlt] at h
    exact err (Option.some.inj h).symm (root_err1 a0 a1 a2 a3 a4 a5 ix sz B1 d1 l1.length B2 d2 L.length hlt W)
  rw [if_neg hlt] at h
  by_cases hsz : (l1.length : Int) ≠ a1
  · rw [if_pos hsz] at h
    exact err (Option.some.inj h).symm (root_err2 a0 a1 a2 a3 a4 a5 ix sz B1 d1 l1.length B2 d2 L.length (by omega) hsz W)
  rw [if_neg hsz] at h
  have hsz' : (l1.length : Int) = a1 := by omega
  obtain ⟨⟨i, b⟩, hd, h⟩ := Option.bind_eq_some_iff.1 h
  dsimp only at h
  by_cases hib : 0 ≤ i ∧ i ≤ 64 ∧ 0 ≤ b ∧ b ≤ 64
  case neg => rw [if_neg hib] at h; cases h
  rw [if_pos hib] at h
  obtain ⟨inner, rfl⟩ := Int.eq_ofNat_of_zero_le hib.1
  obtain ⟨border, rfl⟩ := Int.eq_ofNat_of_zero_le hib.2.2.1
  by_cases hn : (L.length : Int) ≠ (inner : Int) + (border : Int)
  · rw [if_pos hn] at h
    exact err (Option.some.inj h).symm (root_err3 a0 a1 a2 a3 a4 a5 ix sz B1 d1 l1.length B2 d2 L.length inner border (by omega) hsz' hd ⟨by omega, by omega⟩ (by omega) W)
  rw [if_neg hn] at h
  rw [Int.toNat_natCast] at h
  obtain ⟨q, hq, h⟩ := Option.bind_eq_some_iff.1 h
  obtain ⟨r, hr, h⟩ := Option.bind_eq_some_iff.1 h
  have hok := root_ok a0 a1 a2 a3 a4 a5 ix sz B1 d1 l1 B2 d2 L inner border q r W k1 kd1 k2 kd2 (by omega) (by omega) hsz' hd (by omega) hq hr
  by_cases heq : sameB r l3 = true
  · rw [if_pos heq] at h
    obtain ⟨rfl, rfl⟩ := Prod.mk.inj (Option.some.inj h)
    exact (vi_yes a0 a1 a2 a3 a4 a5 ix sz B1 d1 l1.length B2 d2 L.length B3 d3 l3 r W k3 kd3 heq hok).mono fun e W' ⟨he, hbl⟩ => ⟨_, he, hbl, (verdict_nil W').mono fun e2 W2 ⟨he2, hb2⟩ => ⟨_, he2, nilR _ _, hb2⟩⟩
  · rw [if_neg heq] at h
    by_cases hrl : r.length ≤ 140737488351232
    case neg => rw [if_neg hrl] at h; cases h
    rw [if_pos hrl] at h
    obtain ⟨rfl, rfl⟩ := Prod.mk.inj (Option.some.inj h)
    exact (vi_no a0 a1 a2 a3 a4 a5 ix sz B1 d1 l1.length B2 d2 L.length B3 d3 l3 _ W k3 kd3 (by simpa using heq) hok).mono fun e W' ⟨A, c, he, hle, hC, hbl⟩ => ⟨_, he, hbl, (verdict_other B3 d3 l3.length A c _ W' hC hrl)⟩
end Go.Proofs.Ytfhcpniibiobgaa.Qf
