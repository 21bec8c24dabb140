/- spec.Same, walked by hand: the print falls there. -/
import Derived.Test.YtfhcpniibiobgaaDoorHm
namespace Go.Proofs.YtfhcpniibiobgaaDoor.Hs
open Go.RowKit Go.Proofs.YtfhcpniibiobgaaDoorW.PrintWords Go.Proofs.YtfhcpniibiobgaaDoorW.PrintLast Go.Proofs.YtfhcpniibiobgaaDoorW.PrintMore

/-- Two texts are one. -/
def eqB (l m : List Int) : Bool := (strOfNums l).toList == (strOfNums m).toList
def sameF (L M : List (List Int)) : Bool := decide (L.length = M.length) && (List.range L.length).all fun j => eqB (L.getD j []) (M.getD j [])
theorem sameF_ne {L M : List (List Int)} (h : L.length ≠ M.length) : sameF L M = false := by
  unfold sameF
  rw [decide_eq_false h]
  rfl
theorem sameF_no {L M : List (List Int)} (j : Nat) (hj : j < L.length) (h : eqB (L.getD j []) (M.getD j []) = false) : sameF L M = false := by
  unfold sameF
  rw [Bool.and_eq_false_iff]
  refine .inr ?_
  rw [List.all_eq_false]
  exact ⟨j, List.mem_range.2 hj, by rw [h]; simp⟩
theorem sameF_yes {L M : List (List Int)} (hl : L.length = M.length) (h : ∀ j, j < L.length → eqB (L.getD j []) (M.getD j []) = true) : sameF L M = true := by
  unfold sameF
  rw [decide_eq_true hl, Bool.true_and, List.all_eq_true]
  exact fun j hj => h j (List.mem_range.1 hj)

set_option maxHeartbeats 2000000 in
set_option maxRecDepth 100000 in
theorem same_calls (A1 : Option Addr) (c1 : Nat) (L : List (List Int)) (A2 : Option Addr) (c2 : Nat) (M : List (List Int)) (hL : L.length ≤ 5864062014805) (w : World) (h1 : CL w A1 L) (h2 : CL w A2 M) :
    Calls Tryd.prog 18 #[.slice A1 L.length c1, .slice A2 M.length c2] w fun e w' => e = .returned (.bool (sameF L M)) ∧ Drawn0 w w' := by
  have H1 := Aside0.mk h1
  have H2 := Aside0.mk h2
  clear h1 h2
  by_cases hl : L.length = M.length
  case neg =>
    have t1 : ((L.length : Int) != (M.length : Int)) = true := by rw [bne_iff_ne]; omega
    have HF := Aside0.mk (sameF_ne hl)
    clear hl
    go_enter Tryd.func18, Tryd.ntmps18
    go_wp2
    go_ret
    exact ⟨by rw [HF.out]; rfl, Drawn0.refl _⟩
  · have t1 : ((L.length : Int) != (M.length : Int)) = false := by rw [bne_eq_false_iff_eq]; omega
    have HL := Aside0.mk hl
    clear hl
    go_enter Tryd.func18, Tryd.ntmps18
    go_wp2
    (try simp only [Act.put, List.setIfInBounds_toArray, List.set_cons_zero, List.set_cons_succ])
    go_loopg [13] L.length (fun kq v13 w' => ∃ j : Nat, j + kq = L.length ∧ v13 = .int .i64 (j : Nat) ∧ Aside0 (∀ i, i < j → eqB (L.getD i []) (M.getD i []) = true) ∧ Drawn0 w w')
    case atStart => exact ⟨0, by omega, rfl, ⟨fun i hi => by omega⟩, Drawn0.refl _⟩
    case round =>
      obtain ⟨j, hj, rfl, HA, HD⟩ := hrel
      by_cases hlt : j < L.length
      · obtain ⟨ad1, A3, c3, ead1, hx1, hl1, hC1⟩ := at_L (Kd.C_below H1.out HD.below) j hlt
        obtain ⟨ad2, A4, c4, ead2, hx2, hl2, hC2⟩ := at_L (Kd.C_below H2.out HD.below) j (by rw [← HL.out]; exact hlt)
        cases ead1
        cases ead2
        obtain ⟨x, hx⟩ : ∃ x, x = L.getD j [] := ⟨_, rfl⟩
        obtain ⟨y, hy⟩ : ∃ y, y = M.getD j [] := ⟨_, rfl⟩
        rw [← hx] at hx1 hl1 hC1
        rw [← hy] at hx2 hl2 hC2
        have HX := Aside0.mk hx
        have HY := Aside0.mk hy
        clear hx hy
        have hs1 := fun n => Kd.C_string (P := Tryd.prog) (A := A3) (c := c3) Tryd.underlying28 Tryd.underlying5 Tryd.underlying9 (Kd.C_drewN hC1 n)
        have hs2 := fun n => Kd.C_string (P := Tryd.prog) (A := A4) (c := c4) Tryd.underlying28 Tryd.underlying5 Tryd.underlying9 (Kd.C_drewN hC2 n)
        have hltM : (j : Int) < (M.length : Int) := by have := HL.out; omega
        have hltL : (j : Int) < (L.length : Int) := by omega
        have hj0 : (0 : Int) ≤ (j : Int) := by omega
        by_cases he : eqB x y = true
        · have t2 : ((strOfNums x).toList == (strOfNums y).toList) = true := he
          have HE := Aside0.mk he
          clear he
          go_wp2
          go_quiet (fail)
          go_wp2
          go_roundg (L.length - (j + 1))
          case measure => omega
          case rel =>
            refine ⟨j + 1, by omega, by go_num, ⟨fun i hi => ?_⟩, HD.step _⟩
            by_cases e : i = j
            · subst e
              rw [← HX.out, ← HY.out]
              exact HE.out
            · exact HA.out i (by omega)
        · have t2 : ((strOfNums x).toList == (strOfNums y).toList) = false := by
            cases hh : ((strOfNums x).toList == (strOfNums y).toList) with
            | false => rfl
            | true => exact absurd hh he
          have HF : Aside0 (sameF L M = false) := ⟨sameF_no j hlt (by rw [← HX.out, ← HY.out]; simpa using he)⟩
          clear he
          go_wp2
          go_quiet (fail)
          go_wp2
          go_ret
          exact ⟨by rw [HF.out]; rfl, HD.step _⟩
      · have HF := Aside0.mk (sameF_yes HL.out (fun i hi => HA.out i (by omega)))
        go_wp2
        go_ret
        exact ⟨by rw [HF.out]; rfl, HD⟩
end Go.Proofs.YtfhcpniibiobgaaDoor.Hs
