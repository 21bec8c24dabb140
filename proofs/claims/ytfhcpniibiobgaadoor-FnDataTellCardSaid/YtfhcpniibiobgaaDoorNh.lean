/- The tree's HashAt and Hash, walked. -/
import Derived.Test.YtfhcpniibiobgaaDoorNg
namespace Go.Proofs.YtfhcpniibiobgaaDoor.Qf
open Go.RowKit Go.Proofs.YtfhcpniibiobgaaDoorW.PrintWords Go.Proofs.YtfhcpniibiobgaaDoorW.PrintLast Go.Proofs.YtfhcpniibiobgaaDoorW.PrintMore
open Hs (CB CL at_L at_B infoB infoL R_of_blk)

/-- Hashing up along a border: the others to the left. -/
def chainB (a0 a1 a2 a3 a4 a5 : Int) : List (List Int) → List Int → Option (List Int)
  | [], s => some s
  | h :: t, s => (impl_toy_HashChildren.f a0 a1 a2 a3 a4 a5 h s).bind fun s' => chainB a0 a1 a2 a3 a4 a5 t s'
set_option maxHeartbeats 1000000 in
set_option maxRecDepth 100000 in
theorem hashAt0_calls (a0 a1 a2 a3 a4 a5 : Int) (w0 : World) (gt : Nat) (S : Nat → Prop) (w : World) (n : Int) (vh : Value) (rv : List RV) (rows : List (List (List Int))) (r : List Int) (h : TSt (toyV a0 a1 a2 a3 a4 a5) w0 gt S w n vh rv rv rows) (hr : impl_toy_EmptyRoot.f a0 a1 a2 a3 a4 a5 = some r) :
    Calls Tryd.prog 74 #[.pointer (some ⟨gt, 0, none⟩), .int .u64 0] w fun en w' => ∃ A c, en = .returned (.slice A r.length c) ∧ r.length ≤ c ∧ CB w' A r ∧ Below w.heap.size w w' := by
  have k0 : w.cell? ⟨gt, 0, none⟩ = some (toyV a0 a1 a2 a3 a4 a5) := (blk_cell h.obj 0).trans rfl
  have HR := Aside0.mk hr
  clear h hr
  have hmt := meth_er a0 a1 a2 a3 a4 a5
  go_enter Tryd.func74, Tryd.ntmps74
  go_wp2_with (first
    | (go_at_call 136; (with_reducible refine (impl_toy_EmptyRoot.calls a0 a1 a2 a3 a4 a5 r _ HR.out).mono ?_); rintro en w5 ⟨v5, rfl, hR5, hb⟩; obtain ⟨A5, c5, rfl, hl5, hC5⟩ := Kd.R_reads hR5; have HB5 := Aside0.mk hb; have HL5 := Aside0.mk hl5; have HC5 := Aside0.mk hC5; clear hR5 hb hl5 hC5))
  go_ret
  exact ⟨A5, c5, rfl, HL5.out, HC5.out, HB5.out⟩
set_option maxHeartbeats 4000000 in
set_option maxRecDepth 100000 in
theorem hashAt_calls (a0 a1 a2 a3 a4 a5 : Int) (w0 : World) (gt : Nat) (S : Nat → Prop) (w : World) (n : Int) (vh : Value) (rv : List RV) (rows : List (List (List Int))) (z k m : Nat) (ids : List S108) (r : List Int) (h : TSt (toyV a0 a1 a2 a3 a4 a5) w0 gt S w n vh rv rv rows) (hz : z ≠ 0) (HG_ : Glob w) (hrn : compact_RangeNodes.f k 0 (z : Int) [] = some ids) (hm : ids.length = m + 1) (hm2 : m ≤ 500) (hok : ∀ i, i < ids.length → ∃ lv ix : Nat, ids.getD i z108 = ⟨(lv : Int), (ix : Int)⟩ ∧ lv < rows.length ∧ ix < (rows.getD lv []).length) (hch : chainB a0 a1 a2 a3 a4 a5 ((ids.map (nodeF rows)).take m).reverse ((ids.map (nodeF rows)).getD m []) = some r) :
    Calls Tryd.prog 74 #[.pointer (some ⟨gt, 0, none⟩), .int .u64 (z : Int)] w fun en w' => ∃ A c, en = .returned (.slice A r.length c) ∧ r.length ≤ c ∧ CB w' A r ∧ Below w.heap.size w w' := by
  have HT := Aside0.mk h
  have HG := Aside0.mk HG_
  have HRN := Aside0.mk hrn
  have HOK := Aside0.mk hok
  obtain ⟨nd, hnd⟩ : ∃ nd, nd = ids.map (nodeF rows) := ⟨_, rfl⟩
  rw [← hnd] at hch
  have HNE := Aside0.mk hnd
  have HND : Aside0 (nd.length = m + 1) := ⟨by rw [hnd, List.length_map]; exact hm⟩
  clear hnd
  have HCH := Aside0.mk hch
  have HM := Aside0.mk hm
  have HM2 := Aside0.mk hm2
  have t1 : ((z : Int) == 0) = false := beq_eq_false_iff_ne.2 (by omega)
  have t1n : (z == 0) = false := beq_eq_false_iff_ne.2 hz
  clear h HG_ hrn hok hch hm hm2 hz
  have hmt := meth_hc a0 a1 a2 a3 a4 a5
  obtain ⟨L, hL⟩ : ∃ L, L = ids.length := ⟨_, rfl⟩
  have HL := Aside0.mk hL
  have hw1 : ∀ z : Int, z = 1 → wrap64 ((L : Int) - z) = (m : Int) := fun z hz => by rw [hz, w64_in _ (by have := HM.out; have := HM2.out; omega)]; have := HM.out; omega
  have hw2 : ∀ z : Int, z = 2 → wrap64 ((L : Int) - z) = (m : Int) - 1 := fun z hz => by rw [hz, w64_in _ (by have := HM.out; have := HM2.out; omega)]; have := HM.out; omega
  have hm0 : (0 : Int) ≤ (m : Int) := by omega
  have hm1 : (m : Int) < (L : Int) := by have := HM.out; omega
  clear hL
  go_enter Tryd.func74, Tryd.ntmps74
  go_wp2_with (first
    | (go_at_call 105; (with_reducible refine (compact_RangeNodes.calls k 0 (z : Int) (fun _ => False) (.slice none 0 0) [] ids w _ (Below.refl _ _) (Kd.R_nil _ _ _ _ _) HG.out HRN.out).mono ?_); rintro en w5 ⟨v5, rfl, hR5, hb, _⟩; obtain ⟨A5, c5, rfl, hl5, hC5⟩ := Kd.R_reads hR5; have HB5 := Aside0.mk hb; have HC5 := Aside0.mk hC5; clear hR5 hb hl5 hC5)
    | (go_at_call 104; (with_reducible refine (getNodes_calls (toyV a0 a1 a2 a3 a4 a5) w0 gt S w5 n vh rv rows A5 c5 ids (HT.out.step HB5.out) HC5.out (by have := HM.out; have := HM2.out; omega) (by have := HM.out; omega) HOK.out).mono ?_); rintro en w6 ⟨A6, c6, rfl, hl6, hC6, hb⟩; have HB6 := Aside0.mk (below_then HB5.out HB5.out.size hb); rw [← HL.out] at hl6 ⊢; rw [← HNE.out] at hC6; have HC6 := Aside0.mk hC6; obtain ⟨ad6, Ah6, ch6, ead6, hx6, hlh6, hCh6⟩ := at_L hC6 m (by rw [HND.out]; omega); subst ead6; obtain ⟨s0, hs0⟩ : ∃ s0, s0 = nd.getD m [] := ⟨_, rfl⟩; rw [← hs0] at hx6 hlh6 hCh6; have HS0 := Aside0.mk hs0; clear hs0; have HL6 := Aside0.mk hl6; have HLh6 := Aside0.mk hlh6; have HCh6 := Aside0.mk hCh6; clear hl6 hC6 hb hlh6 hCh6))
  (try simp only [Act.put, List.setIfInBounds_toArray, List.set_cons_zero, List.set_cons_succ])
  rw [← HS0.out] at HCH
  go_loopg [6, 7] m (fun kq v6 v7 wr => ∃ (i : Nat) (s' : List Int) (A' : Option Addr) (c' : Nat), i = kq ∧ i ≤ m ∧ v7 = .int .i64 ((i : Int) - 1) ∧ v6 = .slice A' s'.length c' ∧ Aside0 (s'.length ≤ c') ∧ Aside0 (CB wr A' s') ∧ Aside0 (chainB a0 a1 a2 a3 a4 a5 (nd.take i).reverse s' = some r) ∧ Aside0 (Below w6.heap.size w6 wr))
  case atStart => exact ⟨m, s0, Ah6, ch6, rfl, Nat.le_refl _, by first | rfl | exact congrArg (Value.int .i64) (hw2 2 rfl), rfl, HLh6, HCh6, HCH, ⟨Below.refl _ _⟩⟩
  case round =>
    clear hw1 hw2 HCH hx6 HLh6 HCh6
    obtain ⟨i, s', A', c', hik, him, rfl, rfl, HSC, HSB, HCH, HB⟩ := hrel
    have HIK := Aside0.mk hik
    clear hik
    rename World => wr
    have HT6 := Aside0.mk (HT.out.step (below_then HB6.out HB6.out.size HB.out))
    rcases i with _ | q
    · rw [show (((0 : Nat) : Int) - 1) = -1 by omega]
      have hh := HCH.out
      rw [List.take_zero, List.reverse_nil] at hh
      obtain rfl := Option.some.inj hh
      clear hh HCH
      go_wp2
      go_ret
      exact ⟨A', c', rfl, HSC.out, HSB.out, below_then HB6.out HB6.out.size HB.out⟩
    · rw [show (((q + 1 : Nat) : Int) - 1) = (q : Int) by omega]
      have hqn : q < nd.length := by rw [HND.out]; omega
      have HQM : Aside0 (q ≤ m) := ⟨by omega⟩
      obtain ⟨ad, Ah, ch, ead, hx, hlh, hCh⟩ := at_L (Kd.C_below HC6.out HB.out) q hqn
      cases ead
      have htk : (nd.take (q + 1)).reverse = nd.getD q [] :: (nd.take q).reverse := by
        rw [List.take_succ_eq_append_getElem hqn, List.reverse_append, List.reverse_singleton, List.getD_eq_getElem?_getD, List.getElem?_eq_getElem hqn]
        rfl
      have hh := HCH.out
      rw [htk] at hh
      generalize nd.getD q [] = hsh at hh hx hlh hCh
      simp only [chainB] at hh
      obtain ⟨s2, hs2, hh2⟩ := Option.bind_eq_some_iff.mp hh
      have HH2 := Aside0.mk hh2
      have HS2 := Aside0.mk hs2
      have HCh := Aside0.mk hCh
      have HLh := Aside0.mk hlh
      clear htk hh hh2 hs2 hlh hCh HCH
      have q0 : (0 : Int) ≤ (q : Int) := by omega
      have q1 : (q : Int) < (L : Int) := by have := HM.out; have := HL.out; omega
      have q2 : decide ((0 : Int) ≤ (q : Int)) = true := decide_eq_true q0
      have k0 : wr.cell? ⟨gt, 0, none⟩ = some (toyV a0 a1 a2 a3 a4 a5) := (blk_cell HT6.out.obj 0).trans rfl
      have hw3 : ∀ z : Int, z = 1 → wrap64 ((q : Int) - z) = (q : Int) - 1 := fun z hz => by rw [hz]; exact w64_in _ (by have := HQM.out; have := HM2.out; omega)
      go_wp2
      go_region_held3 (fun w' => w'.cell? ⟨gt, 0, none⟩ = some (toyV a0 a1 a2 a3 a4 a5) ∧ w'.cell? (ad6.add q) = some (.slice Ah hsh.length ch) ∧ Below wr.heap.size wr w')
        (((try dsimp only); (try go_split_ands); (repeat' apply And.intro) <;> first | (go_keep; done) | exact below_drew (Below.refl _ _) | (refine pw_cell_below hb ?_; assumption) | (refine below_then ?_ ?_ hb; assumption; exact Below.size (by assumption))))
        ((go_at_call 53; have hB0 := Aside0.mk (show Below wr.heap.size wr _ by go_split_ands; assumption); refine (impl_toy_HashChildren.calls a0 a1 a2 a3 a4 a5 Ah ch hsh A' c' s' s2 _ (Kd.C_below HCh.out hB0.out) HLh.out (Kd.C_below HSB.out hB0.out) HSC.out HS2.out).mono ?_; rintro en w3 ⟨v3, rfl, hR3, hb⟩))
      obtain ⟨A3, c3, rfl, hl3, hC3⟩ := Kd.R_reads hR3
      have HL3 := Aside0.mk hl3
      have HC3 := Aside0.mk hC3
      clear hR3 hl3 hC3
      go_split_ands
      have HB3 : Aside0 (Below w6.heap.size w6 w3) := ⟨below_step HB.out (by assumption)⟩
      go_wp2
      go_roundg q
      case measure => have := HIK.out; omega
      case rel =>
        have hv := hw3 1 rfl
        have hq := HQM.out
        clear hw3
        exact ⟨q, s2, A3, c3, rfl, hq, by first | rfl | exact congrArg (Value.int .i64) hv, rfl, HL3, HC3, HH2, HB3⟩
end Go.Proofs.YtfhcpniibiobgaaDoor.Qf
