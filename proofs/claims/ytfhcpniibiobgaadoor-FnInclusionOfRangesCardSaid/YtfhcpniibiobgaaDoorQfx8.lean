-- Written by wip/tools/myprint.py for this seat (the kit's print with changes); Lean checks it.
import Derived.Test.YtfhcpniibiobgaaDoorQfx0
import Derived.Test.YtfhcpniibiobgaaDoorQfx1
import Derived.Test.YtfhcpniibiobgaaDoorQfx7
namespace Go.Proofs.YtfhcpniibiobgaaDoor.Qf
open Go.RowKit Go.Proofs.YtfhcpniibiobgaaDoorW.PrintWords Go.Proofs.YtfhcpniibiobgaaDoorW.PrintLast Go.Proofs.YtfhcpniibiobgaaDoorW.PrintMore
attribute [local go_sem] max2_int min2_int max_two min_two max_three min_three max_four min_four
set_option linter.unusedVariables false
set_option linter.unusedSimpArgs false
attribute [local go_sem high] eqA52
mutual
def laws_growthHashes.l0 : Nat → List (S52) → List (S58) → List (S35) → Int → Int → Option ((List (List Int)) × Bool)
  | 0, _, _, _, _, _ => none
  | k + 1, x0, x6, x15, x16, x17 => if x17 < x16 then (if 0 ≤ x17 then (if x17 < (x15.length : Int) then ((spec_Named.f k ((rd_T35 x15 x17).f0) ((rd_T35 x15 x17).f1) ((rd_T35 x15 x17).f2)).bind fun t316 => (if x6.length + t316.length < 3518437208883 then (laws_growthHashes.l0 k x0 (x6 ++ t316) x15 x16 (wrap64 (x17 + 1))) else (none))) else (none)) else (none)) else (laws_growthHashes.l1 k x6 ([] : List (List Int)) x0 (x0.length : Int) 0)
def laws_growthHashes.l1 : Nat → List (S58) → List (List Int) → List (S52) → Int → Int → Option ((List (List Int)) × Bool)
  | 0, _, _, _, _, _ => none
  | k + 1, x6, x9, x26, x27, x28 => if x28 < x27 then (if 0 ≤ x28 then (if x28 < (x26.length : Int) then (laws_growthHashes.l2 k x6 x9 false x26 x27 x28 x6 (x6.length : Int) 0 ((rd_T52 x26 x28).f0) ((rd_T52 x26 x28).f1)) else (none)) else (none)) else (some (x9, true))
def laws_growthHashes.l2 : Nat → List (S58) → List (List Int) → Bool → List (S52) → Int → Int → List (S58) → Int → Int → Int → Int → Option ((List (List Int)) × Bool)
  | 0, _, _, _, _, _, _, _, _, _, _, _ => none
  | k + 1, x6, x9, x12, x26, x27, x28, x32, x33, x34, x324000, x324001 => if x34 < x33 then (if 0 ≤ x34 then (if x34 < (x32.length : Int) then (if (((rd_T58 x32 x34).f0.f0) == x324000 && (((rd_T58 x32 x34).f0.f1) == x324001)) = true then (if x12 = true then (laws_growthHashes.l2 k x6 x9 x12 x26 x27 x28 x32 x33 (wrap64 (x34 + 1)) x324000 x324001) else ((some (([] : List Int) : List Int)).bind fun y326 => (if y326.length + ((rd_T58 x32 x34).f1).length < 140737488355328 then (if x9.length < 5864062014805 then (laws_growthHashes.l2 k x6 (x9 ++ [(y326 ++ ((rd_T58 x32 x34).f1))]) true x26 x27 x28 x32 x33 (wrap64 (x34 + 1)) x324000 x324001) else (none)) else (none)))) else (laws_growthHashes.l2 k x6 x9 x12 x26 x27 x28 x32 x33 (wrap64 (x34 + 1)) x324000 x324001)) else (none)) else (none)) else (if x12 = true then (laws_growthHashes.l1 k x6 x9 x26 x27 (wrap64 (x28 + 1))) else (some (([] : List (List Int)), false)))
end
def laws_growthHashes.f (k : Nat) (l0 : List (S52)) (l1 : List (S35)) : Option ((List (List Int)) × Bool) := laws_growthHashes.l0 k l0 ([] : List (S58)) l1 (l1.length : Int) 0
set_option maxHeartbeats 8000000 in
set_option maxRecDepth 100000 in
theorem laws_growthHashes.calls (k : Nat) (A0 : Option Addr) (c0 : Nat) (l0 : List (S52)) (P1_ : Nat → Prop) (A1 : Option Addr) (c1 : Nat) (l1 : List (S35)) (r1 : List (List Int)) (r2 : Bool) (w : World) (hr0 : Kd.C k52 w A0 l0.length l0) (hc0 : l0.length ≤ c0) (hs1 : Kd.V k35 35 w w.heap.size (fun k_ => P1_ k_) (.slice A1 l1.length c1) l1) (h : laws_growthHashes.f k l0 l1 = some (r1, r2)) :
    Calls Tryd.prog 43 #[.slice A0 l0.length c0, .slice A1 l1.length c1] w fun e w' => ∃ v0_ : Value, e = .returned (.tuple #[v0_, .bool r2]) ∧ Kd.N (Kd.slice 5 (Kd.int .u8)) 28 w' w.heap.size (fun k_ => (P1_ k_ ∨ w.heap.size ≤ k_)) v0_ r1 ∧ Below w.heap.size w w' := by
  have hu35 := Tryd.underlying35
  have hu52 := Tryd.underlying52
  have hu58 := Tryd.underlying58
  have HR0 := aq hr0
  have HC0 := aq hc0
  clear hr0 hc0
  have HO1 := aq (show Kd.V k35 35 w w.heap.size (fun k_ => (P1_ k_ ∨ w.heap.size ≤ k_)) (.slice A1 l1.length c1) l1 from Kd.V_mono hs1 (fun k_ hk => .inl hk))
  have HB := aq (Below.refl w.heap.size w)
  have H : (laws_growthHashes.l0 k l0 ([] : List (S58)) l1 (l1.length : Int) 0) = some (r1, r2) := h
  clear h
  have H' := aq H
  clear H
  go_enter Tryd.func43, Tryd.ntmps43
  go_wp2
  (try simp only [Act.put, List.setIfInBounds_toArray, List.set_cons_zero, List.set_cons_succ])
  go_loopg [6, 17] k (fun kq v6 v17 w' => ∃ (x6_1 : List (S58)) (x17_1 : Int), v17 = .int .i64 x17_1 ∧ Aside0 (laws_growthHashes.l0 kq l0 x6_1 l1 (l1.length : Int) x17_1 = some (r1, r2)) ∧ Aside0 (kq ≤ k) ∧ Aside0 (Kd.N k58 58 w' w.heap.size (fun k_ => (P1_ k_ ∨ w.heap.size ≤ k_)) v6 x6_1) ∧ Aside0 (Kd.V k35 35 w' w.heap.size (fun k_ => (P1_ k_ ∨ w.heap.size ≤ k_) ∧ some k_ ≠ (v6 : Value).ownBlock) (.slice A1 l1.length c1) l1) ∧ Aside0 (Below w.heap.size w w'))
  case atStart => exact ⟨(([] : List (S58))), (0), (by first | rfl | (simp; done) | (simp [*]; done)), H', ⟨Nat.le_refl _⟩, ⟨by first | exact Kd.S_nil _ _ _ _ _ | exact Kd.N_nil _ _ _ _ _ | exact Kd.V_nil _ _ _ _ _ | exact Kd.Q_nil _ _ _ _ _ | exact Kd.R_nil _ _ _ _ _⟩, ⟨by (with_reducible repeat (first | apply Kd.V_alloc | apply Kd.V_drewN | apply Kd.V_drew)); exact Kd.V_mono HO1.out (fun _ hk => ⟨hk, (by simp [Value.ownBlock])⟩)⟩, ⟨by repeat (first | (with_reducible first | exact HB.out | apply below_alloc | apply pw_below_drewN | apply below_drew1) | exact HB.out)⟩⟩
  case round =>
    clear H'
    try clear c1
    try clear p2
    obtain ⟨x6_1, x17_1, rfl, HA, HK1, HO_6, HO_15, HB⟩ := hrel
    cases gk with
    | zero => exact absurd HA.out (by simp [laws_growthHashes.l0])
    | succ k1 =>
      have H := HA.out
      clear HA
      simp only [laws_growthHashes.l0] at H
      by_cases c3 : x17_1 < (l1.length : Int)
      · rw [if_pos c3] at H
        have c3b0 : decide (x17_1 < (l1.length : Int)) = true := decide_eq_true c3
        clear c3
        by_cases c4 : 0 ≤ x17_1
        · rw [if_pos c4] at H
          have c4b0 : decide (0 ≤ x17_1) = true := decide_eq_true c4
          clear c4
          by_cases c5 : x17_1 < (l1.length : Int)
          · rw [if_pos c5] at H
            have c5b0 : decide (x17_1 < (l1.length : Int)) = true := decide_eq_true c5
            clear c5
            replace H := Option.bind_eq_some_iff.mp H
            obtain ⟨t316, A60, H⟩ := H
            have A6 := aq A60
            clear A60
            by_cases c7 : x6_1.length + t316.length < 3518437208883
            · rw [if_pos c7] at H
              have LMc7 := aq c7
              clear c7
              obtain ⟨y319, hy319⟩ : ∃ y_ : List (S58), y_ = (x6_1 ++ t316) := ⟨_, rfl⟩
              replace H : (laws_growthHashes.l0 k1 l0 y319 l1 (l1.length : Int) (wrap64 (x17_1 + 1))) = some (r1, r2) := by first | (rw [hy319]; with_reducible exact H) | (have H2_ := (Option.bind_some _ _).symm.trans H; rw [hy319]; with_reducible exact H2_) | (have H2_ := (Option.bind_some _ _).symm.trans H; with_reducible exact H2_) | with_reducible exact H | (rw [hy319]; exact H) | exact H
              have Ny319 := aq hy319
              clear hy319
              have H' := aq H
              clear H
              have p314 : 0 ≤ (x17_1 : Int) := of_decide_eq_true (by first | (with_reducible assumption) | assumption)
              have q314 : x17_1 < (l1.length : Int) := of_decide_eq_true (by first | (with_reducible assumption) | assumption)
              obtain ⟨ad314, A314_2, c314_2, e314, hx314_0, hx314_1, hx314_2, hl314_2, hi314_2⟩ := at_T35 (Kd.V_reads' HO_15.out).2.2 x17_1 p314 q314
              cases e314
              obtain ⟨ce314, hce314, hMe314, hcc314⟩ := Kd.V_get HO_15.out z35 x17_1 p314 (by first | exact q314 | exact of_decide_eq_true (by first | (with_reducible assumption) | assumption) | (have e_ := (Kd.V_reads' HO_15.out).1; omega))
              obtain ⟨ua314_2, uc314_2, rfl, ul314_2, ge314_2⟩ := k35_openF hMe314
              have hv314_2 := hcc314 2 _ rfl
              rw [add_field _ _ 2 (by omega)] at hv314_2
              replace hv314_2 := Option.some.inj (hv314_2.symm.trans hx314_2)
              injection hv314_2 with hva_ hvn_ hvc_
              rw [hva_] at ge314_2
              rw [hvc_] at ul314_2
              have HL314_2 := aq (show Kd.V (Kd.slice 5 (Kd.int .u8)) 28 _ w.heap.size _ _ ((rd_T35 l1 x17_1).f2) from Kd.V_mk ul314_2 ge314_2)
              clear hva_ hvn_ hvc_ ge314_2 ul314_2
              clear hcc314 hce314
              have HR314_2 := aq hi314_2
              have HC314_2 := aq hl314_2
              clear hi314_2 hl314_2
              replace p314 := eq_true p314
              replace q314 := eq_true q314
              go_wp2_with (first | ((with_reducible refine gate_dst (N := 8) rfl ?_); refine be 8 #[.int .u64 0, .int .u64 0, .slice none 0 0] 35 ?_; intro gb315 hg w8 hbox hb; have BK315 := aq (hbox); have GW315 := aq ((by rw [hg]; exact (below_size (bw HB)) : w.heap.size ≤ gb315)); have GE315 := aq ((by rw [hg]; exact (below_size (bw HB)) : w.heap.size ≤ gb315)); replace HO_6 := aq (Kd.N_below (Kd.N_elderB (nq HO_6) gb315 (Nat.le_of_eq hg.symm)) hb); replace HO_15 := aq (Kd.V_below (Kd.V_elderB (vq HO_15) gb315 (Nat.le_of_eq hg.symm)) hb); replace HL314_2 := aq (Kd.V_below (Kd.V_elderB (vq HL314_2) gb315 (Nat.le_of_eq hg.symm)) hb); replace HR314_2 := aq True.intro; replace HB := aq (below_step (bw HB) hb); clear hb hbox hg; have hcz9_0 : w8.cell? ⟨gb315, 0, none⟩ = some (.int .u64 0) := bc BK315 0; have hcz9_1 : w8.cell? ⟨gb315, 1, none⟩ = some (.int .u64 0) := bc BK315 1; have hcz9_2 : w8.cell? ⟨gb315, 2, none⟩ = some (.slice none 0 0) := bc BK315 2; have hfz9_0 := bz BK315 0; have hfz9_1 := bz BK315 1; have hfz9_2 := bz BK315 2) | ((with_reducible refine gate_store (t := 35) (p := 8) rfl ?_); refine store_event (t := 35) (p := 8) (v := ?vo_w10) (w1 := (((w8.setCell ⟨gb315, 0, none⟩ (.int .u64 ((rd_T35 l1 x17_1).f0))).setCell ⟨gb315, 1, none⟩ (.int .u64 ((rd_T35 l1 x17_1).f1))).setCell ⟨gb315, 2, none⟩ (.slice A314_2 ((rd_T35 l1 x17_1).f2).length c314_2))) ?hg ?ho ?hn ?hr ?_; (case ho => rfl); (case hg => rfl); (case hn => rfl); (case hr => first | (go_simp; done) | (go_simp; rfl)); intro w10 hw; have n0_ : Aside0 (Kd.N k58 58 w10 w.heap.size (fun k_ => (P1_ k_ ∨ w.heap.size ≤ k_) ∧ k_ ≠ gb315) u6 x6_1) := ⟨(by rw [hw]; exact (by (with_reducible repeat (first | apply Kd.N_alloc | apply Kd.N_drewN | apply Kd.N_drew)); exact Kd.N_mono (Kd.N_far (p := ⟨gb315, 2, none⟩) (Kd.N_far (p := ⟨gb315, 1, none⟩) (Kd.N_far (p := ⟨gb315, 0, none⟩) (Kd.N_mono HO_6.out (fun k_ hk => (⟨hk, hk.2⟩ : _ ∧ k_ ≠ gb315))) (fun _ hk => hk.2) (.int .u64 ((rd_T35 l1 x17_1).f0))) (fun _ hk => hk.2) (.int .u64 ((rd_T35 l1 x17_1).f1))) (fun _ hk => hk.2) (.slice A314_2 ((rd_T35 l1 x17_1).f2).length c314_2)) (fun _ hk => ⟨hk.1.1, hk.1.2⟩)))⟩; have n1_ : Aside0 (Kd.V k35 35 w10 w.heap.size (fun k_ => (P1_ k_ ∨ w.heap.size ≤ k_) ∧ some k_ ≠ (u6 : Value).ownBlock ∧ k_ ≠ gb315) (.slice (some ad314) l1.length c1) l1) := ⟨(by rw [hw]; exact (by (with_reducible repeat (first | apply Kd.V_alloc | apply Kd.V_drewN | apply Kd.V_drew)); exact Kd.V_mono (Kd.V_far (p := ⟨gb315, 2, none⟩) (Kd.V_far (p := ⟨gb315, 1, none⟩) (Kd.V_far (p := ⟨gb315, 0, none⟩) (Kd.V_mono HO_15.out (fun k_ hk => (⟨hk, hk.2⟩ : _ ∧ k_ ≠ gb315))) (fun _ hk => hk.2) (.int .u64 ((rd_T35 l1 x17_1).f0))) (fun _ hk => hk.2) (.int .u64 ((rd_T35 l1 x17_1).f1))) (fun _ hk => hk.2) (.slice A314_2 ((rd_T35 l1 x17_1).f2).length c314_2)) (fun _ hk => ⟨hk.1.1.1, ⟨hk.1.1.2, hk.1.2⟩⟩)))⟩; have n2_ : Aside0 (Kd.V (Kd.slice 5 (Kd.int .u8)) 28 w10 w.heap.size (fun k_ => (P1_ k_ ∨ w.heap.size ≤ k_) ∧ some k_ ≠ (u6 : Value).ownBlock ∧ k_ ≠ gb315) (.slice A314_2 ((rd_T35 l1 x17_1).f2).length c314_2) ((rd_T35 l1 x17_1).f2)) := ⟨(by rw [hw]; exact (by (with_reducible repeat (first | apply Kd.V_alloc | apply Kd.V_drewN | apply Kd.V_drew)); exact Kd.V_mono (Kd.V_far (p := ⟨gb315, 2, none⟩) (Kd.V_far (p := ⟨gb315, 1, none⟩) (Kd.V_far (p := ⟨gb315, 0, none⟩) (Kd.V_mono HL314_2.out (fun k_ hk => (⟨hk, hk.2⟩ : _ ∧ k_ ≠ gb315))) (fun _ hk => hk.2) (.int .u64 ((rd_T35 l1 x17_1).f0))) (fun _ hk => hk.2) (.int .u64 ((rd_T35 l1 x17_1).f1))) (fun _ hk => hk.2) (.slice A314_2 ((rd_T35 l1 x17_1).f2).length c314_2)) (fun _ hk => ⟨hk.1.1.1, ⟨hk.1.1.2, hk.1.2⟩⟩)))⟩; have n3_ : Aside0 (w10.heap[gb315]? = some (.cells #[.int .u64 ((rd_T35 l1 x17_1).f0), .int .u64 ((rd_T35 l1 x17_1).f1), .slice A314_2 ((rd_T35 l1 x17_1).f2).length c314_2] 35 (0, 0))) := ⟨(by rw [hw]; exact (by (with_reducible repeat (first | refine blk_drewN ?_ _ | refine blk_drew ?_ | refine blk_alloc ?_ _)); refine blk_put (cs := #[.int .u64 ((rd_T35 l1 x17_1).f0), .int .u64 ((rd_T35 l1 x17_1).f1), .slice none 0 0]) ?_ 2 _ rfl; (with_reducible repeat (first | refine blk_drewN ?_ _ | refine blk_drew ?_ | refine blk_alloc ?_ _)); refine blk_put (cs := #[.int .u64 ((rd_T35 l1 x17_1).f0), .int .u64 0, .slice none 0 0]) ?_ 1 _ rfl; (with_reducible repeat (first | refine blk_drewN ?_ _ | refine blk_drew ?_ | refine blk_alloc ?_ _)); refine blk_put (cs := #[.int .u64 0, .int .u64 0, .slice none 0 0]) ?_ 0 _ rfl; (with_reducible repeat (first | refine blk_drewN ?_ _ | refine blk_drew ?_ | refine blk_alloc ?_ _)); exact BK315.out))⟩; have n4_ : Aside0 (Below w.heap.size w w10) := ⟨(by rw [hw]; exact (bw HB))⟩; clear hw; clear HO_6; clear HO_15; clear HL314_2; clear BK315; clear HB; have HO_6 := n0_; have HO_15 := n1_; have HL314_2 := n2_; have BK315 := n3_; have HB := n4_; clear n0_ n1_ n2_ n3_ n4_; have hcz11_0 : w10.cell? ⟨gb315, 0, none⟩ = some (.int .u64 ((rd_T35 l1 x17_1).f0)) := bc BK315 0; have hcz11_1 : w10.cell? ⟨gb315, 1, none⟩ = some (.int .u64 ((rd_T35 l1 x17_1).f1)) := bc BK315 1; have hcz11_2 : w10.cell? ⟨gb315, 2, none⟩ = some (.slice A314_2 ((rd_T35 l1 x17_1).f2).length c314_2) := bc BK315 2; have hfz11_0 := bz BK315 0; have hfz11_1 := bz BK315 1; have hfz11_2 := bz BK315 2) | ((with_reducible refine gate_callee (f := 81) rfl ?_); refine gL 23 Tryd.func81 #[.agg #[.int .u64 ((rd_T35 l1 x17_1).f0), .int .u64 ((rd_T35 l1 x17_1).f1), .slice A314_2 ((rd_T35 l1 x17_1).f2).length c314_2]] ?_; (with_reducible refine (spec_Named.calls k1 ((rd_T35 l1 x17_1).f0) ((rd_T35 l1 x17_1).f1) (fun k_ => ((P1_ k_ ∨ w.heap.size ≤ k_) ∧ (some k_ ≠ (u6 : Value).ownBlock ∧ k_ ≠ gb315))) _ _ ((rd_T35 l1 x17_1).f2) t316 _ ?side1 A6.out).mono ?_); (case side1 => exact HL314_2.out); rintro e w12 ⟨v317, rfl, ho0, hb⟩; refine ⟨_, rfl, ?_⟩; have HO318 := aq (Kd.N_lower (Kd.N_mono (ok' := fun k_ => (P1_ k_ ∨ w.heap.size ≤ k_) ∧ some k_ ≠ (u6 : Value).ownBlock ∧ k_ ≠ gb315) ho0 (fun k_ hk_ => ⟨Or.elim hk_ (fun hs_ => hs_.1) (fun hn_ => (.inr (Nat.le_trans (below_size (bw HB)) hn_))), Or.elim hk_ (fun hs_ => hs_.2.1) (fun hn_ => (Kd.fresh' (Kd.N_lt (nq HO_6)) k_ hn_)), Or.elim hk_ (fun hs_ => hs_.2.2) (fun hn_ => (Kd.freshB (g := gb315) (o := .cells #[.int .u64 ((rd_T35 l1 x17_1).f0), .int .u64 ((rd_T35 l1 x17_1).f1), .slice A314_2 ((rd_T35 l1 x17_1).f2).length c314_2] 35 (0, 0)) (bq BK315) k_ hn_))⟩)) (below_size (bw HB))); replace HO_6 := aq (Kd.N_elder' (nq HO_6) (Kd.N_base ho0) hb); replace HO_15 := aq (Kd.V_elder' (vq HO_15) (Kd.N_base ho0) hb); replace HL314_2 := aq (Kd.V_elder' (vq HL314_2) (Kd.N_base ho0) hb); replace HR314_2 := aq True.intro; replace BK315 := aq (blk_below (bq BK315) hb); replace HB := aq (below_step (bw HB) hb); (try clear hb); (try clear hk); (try clear ho0); obtain ⟨Ao14, co14, eo14⟩ := Kd.N_slice HO318.out; subst eo14) | ((with_reducible refine gate_builtin (b := .append) (xs := #[.tmp 21, .tmp 23]) rfl ?_); at_builtin; refine Kd.N_append_rows k58 (w0 := w) w.heap.size rfl (.tmp 21) (.tmp 23) 37 58 (.agg #[(.int .u64 0), (.int .u64 0), (.slice none 0 0)]) 40 rfl Tryd.underlying37 info58 rfl (by decide) (by omega) u6 x6_1 t316 _ _ _ (fun k_ => (P1_ k_ ∨ w.heap.size ≤ k_) ∧ k_ ≠ gb315) (fun k_ => ((fun k_ => (P1_ k_ ∨ w.heap.size ≤ k_) ∧ k_ ≠ gb315)) k_ ∧ some k_ ≠ (u6 : Value).ownBlock) rfl rfl ?aO ?aR (fun _ hk => hk) ?aF ?aB ?aS ?aL ?_; (case aR => exact (by skip; exact Kd.N_F (Kd.N_mono (ok' := (fun k_ => ((fun k_ => (P1_ k_ ∨ w.heap.size ≤ k_) ∧ k_ ≠ gb315)) k_ ∧ some k_ ≠ (u6 : Value).ownBlock)) (HO318.out) (fun k_ hk => ⟨⟨hk.1, hk.2.2⟩, hk.2.1⟩)))); (case aB => exact (bw HB)); (case aF => exact (fun k_ hk => ⟨(.inr (Nat.le_trans (below_size (bw HB)) hk)), Kd.freshB (g := gb315) (o := .cells #[.int .u64 ((rd_T35 l1 x17_1).f0), .int .u64 ((rd_T35 l1 x17_1).f1), .slice A314_2 ((rd_T35 l1 x17_1).f2).length c314_2] 35 (0, 0)) (bq BK315) k_ hk⟩)); (case aO => exact (by (with_reducible repeat (first | apply Kd.N_alloc | apply Kd.N_drewN | apply Kd.N_drew)); exact Kd.N_mono HO_6.out (fun _ hk => ⟨hk.1.1, hk.1.2⟩))); (case aS => exact (below_size (bw HB))); (case aL => have := LMc7.out; omega); intro v320 w13 ho hb hg hat; rw [← Ny319.out] at ho; have HO321 := aq (ho); replace HO_15 := aq (Kd.V_afterv (ok := (fun k_ => (P1_ k_ ∨ w.heap.size ≤ k_) ∧ some k_ ≠ (.slice Ao14 t316.length co14 : Value).ownBlock ∧ k_ ≠ gb315)) (by (with_reducible repeat (first | apply Kd.V_alloc | apply Kd.V_drewN | apply Kd.V_drew)); exact Kd.V_mono HO_15.out (fun _ hk => ⟨⟨hk.1.1, ⟨hk.2, hk.1.2.2⟩⟩, hk.1.2.1⟩)) hg hat); replace HL314_2 := aq (Kd.V_afterv (ok := (fun k_ => (P1_ k_ ∨ w.heap.size ≤ k_) ∧ some k_ ≠ (.slice Ao14 t316.length co14 : Value).ownBlock ∧ k_ ≠ gb315)) (by (with_reducible repeat (first | apply Kd.V_alloc | apply Kd.V_drewN | apply Kd.V_drew)); exact Kd.V_mono HL314_2.out (fun _ hk => ⟨⟨hk.1.1, ⟨hk.2, hk.1.2.2⟩⟩, hk.1.2.1⟩)) hg hat); replace BK315 := aq (blk_grown (g := gb315) (o := .cells #[.int .u64 ((rd_T35 l1 x17_1).f0), .int .u64 ((rd_T35 l1 x17_1).f1), .slice A314_2 ((rd_T35 l1 x17_1).f2).length c314_2] 35 (0, 0)) (bq BK315) hg (Kd.N_ne HO_6.out BK315.out (by decide))); replace HO318 := aq (Kd.N_afterv (ok := (fun k_ => (P1_ k_ ∨ w.heap.size ≤ k_) ∧ k_ ≠ gb315)) (by (with_reducible repeat (first | apply Kd.N_alloc | apply Kd.N_drewN | apply Kd.N_drew)); exact Kd.N_mono HO318.out (fun _ hk => ⟨⟨hk.1, hk.2.2⟩, hk.2.1⟩)) hg hat); replace HB := aq (hb); clear HO_6; clear ho hb hg hat))
              go_roundg k1
              case measure => have := HK1.out; omega
              case rel => exact ⟨(y319), (wrap64 (x17_1 + 1)), (by first | rfl | (simp; done) | (simp [*]; done)), H', ⟨by have := HK1.out; omega⟩, ⟨by (with_reducible repeat (first | apply Kd.N_alloc | apply Kd.N_drewN | apply Kd.N_drew)); exact Kd.N_mono HO321.out (fun _ hk => hk.1)⟩, ⟨by (with_reducible repeat (first | apply Kd.V_alloc | apply Kd.V_drewN | apply Kd.V_drew)); exact Kd.V_mono HO_15.out (fun _ hk => ⟨hk.1.1, hk.2⟩)⟩, ⟨by repeat (first | (with_reducible first | exact HB.out | apply below_alloc | apply pw_below_drewN | apply below_drew1 | refine below_set ?_ GE315.out) | exact HB.out)⟩⟩
            · rw [if_neg c7] at H
              exact absurd H (by simp)
          · rw [if_neg c5] at H
            exact absurd H (by simp)
        · rw [if_neg c4] at H
          exact absurd H (by simp)
      · rw [if_neg c3] at H
        have c3b0 : decide (x17_1 < (l1.length : Int)) = false := decide_eq_false c3
        clear c3
        have H' := aq H
        clear H
        go_wp2
        (try simp only [Act.put, List.setIfInBounds_toArray, List.set_cons_zero, List.set_cons_succ])
        go_loopg [9, 28] k1 (fun kq v9 v28 w' => ∃ (x9_2 : List (List Int)) (x28_2 : Int), v28 = .int .i64 x28_2 ∧ Aside0 (laws_growthHashes.l1 kq x6_1 x9_2 l0 (l0.length : Int) x28_2 = some (r1, r2)) ∧ Aside0 (kq ≤ k1) ∧ Aside0 (Kd.N k58 58 w' w.heap.size (fun k_ => (P1_ k_ ∨ w.heap.size ≤ k_) ∧ some k_ ≠ (v9 : Value).ownBlock) u6 x6_1) ∧ Aside0 (Kd.N (Kd.slice 5 (Kd.int .u8)) 28 w' w.heap.size (fun k_ => (P1_ k_ ∨ w.heap.size ≤ k_) ∧ some k_ ≠ (u6 : Value).ownBlock) v9 x9_2) ∧ Aside0 (Below w.heap.size w w'))
        case atStart => exact ⟨(([] : List (List Int))), (0), (by first | rfl | (simp; done) | (simp [*]; done)), H', ⟨Nat.le_refl _⟩, ⟨by (with_reducible repeat (first | apply Kd.N_alloc | apply Kd.N_drewN | apply Kd.N_drew)); exact Kd.N_mono HO_6.out (fun _ hk => ⟨hk, (by simp [Value.ownBlock])⟩)⟩, ⟨by first | exact Kd.S_nil _ _ _ _ _ | exact Kd.N_nil _ _ _ _ _ | exact Kd.V_nil _ _ _ _ _ | exact Kd.Q_nil _ _ _ _ _ | exact Kd.R_nil _ _ _ _ _⟩, ⟨by repeat (first | (with_reducible first | exact HB.out | apply below_alloc | apply pw_below_drewN | apply below_drew1) | exact HB.out)⟩⟩
        case round =>
          clear H'
          try clear c1
          try clear p2
          try clear c3
          try clear c3b0
          try clear p3
          try clear q3
          try clear hx3
          try clear c4
          try clear c4b0
          try clear c5
          try clear c5b0
          try clear p6
          try clear c7
          try clear c8
          try clear hcz11_0
          try clear hcz11_1
          try clear hcz11_2
          try clear hcz9_0
          try clear hcz9_1
          try clear hcz9_2
          try clear hfz11_0
          try clear hfz11_1
          try clear hfz11_2
          try clear hfz9_0
          try clear hfz9_1
          try clear hfz9_2
          try clear hx314_0
          try clear hx314_1
          try clear hx314_2
          try clear p2
          try clear p314
          try clear q314
          obtain ⟨x9_2, x28_2, rfl, HA, HK2, HO_6, HO_9, HB⟩ := hrel
          cases gk with
          | zero => exact absurd HA.out (by simp [laws_growthHashes.l1])
          | succ k2 =>
            have H := HA.out
            clear HA
            simp only [laws_growthHashes.l1] at H
            by_cases c15 : x28_2 < (l0.length : Int)
            · rw [if_pos c15] at H
              have c15b0 : decide (x28_2 < (l0.length : Int)) = true := decide_eq_true c15
              clear c15
              by_cases c16 : 0 ≤ x28_2
              · rw [if_pos c16] at H
                have c16b0 : decide (0 ≤ x28_2) = true := decide_eq_true c16
                clear c16
                by_cases c17 : x28_2 < (l0.length : Int)
                · rw [if_pos c17] at H
                  have c17b0 : decide (x28_2 < (l0.length : Int)) = true := decide_eq_true c17
                  clear c17
                  have H' := aq H
                  clear H
                  have p322 : 0 ≤ (x28_2 : Int) := of_decide_eq_true (by first | (with_reducible assumption) | assumption)
                  have q322 : x28_2 < (l0.length : Int) := of_decide_eq_true (by first | (with_reducible assumption) | assumption)
                  obtain ⟨ad322, e322, hx322_0, hx322_1⟩ := at_T52 HR0.out x28_2 p322 q322
                  cases e322
                  (try replace hx322_0 := (HB.out.cell (World.block_lt_of_cell? w _ hx322_0)).trans hx322_0)
                  (try replace hx322_1 := (HB.out.cell (World.block_lt_of_cell? w _ hx322_1)).trans hx322_1)
                  replace p322 := eq_true p322
                  replace q322 := eq_true q322
                  go_wp2_with (first | ((with_reducible refine gate_dst (N := 11) rfl ?_); refine be 11 #[.int .u64 0, .int .u64 0] 52 ?_; intro gb323 hg w18 hbox hb; have BK323 := aq (hbox); have GW323 := aq ((by rw [hg]; exact (below_size (bw HB)) : w.heap.size ≤ gb323)); have GE323 := aq ((by rw [hg]; exact (below_size (bw HB)) : w.heap.size ≤ gb323)); replace HO_6 := aq (Kd.N_below (Kd.N_elderB (nq HO_6) gb323 (Nat.le_of_eq hg.symm)) hb); replace HO_9 := aq (Kd.N_below (Kd.N_elderB (nq HO_9) gb323 (Nat.le_of_eq hg.symm)) hb); replace HB := aq (below_step (bw HB) hb); clear hb hbox hg; have hcz19_0 : w18.cell? ⟨gb323, 0, none⟩ = some (.int .u64 0) := bc BK323 0; have hcz19_1 : w18.cell? ⟨gb323, 1, none⟩ = some (.int .u64 0) := bc BK323 1; have hfz19_0 := bz BK323 0; have hfz19_1 := bz BK323 1; obtain ⟨Ao20, co20, eo20⟩ := Kd.N_slice HO_6.out; subst eo20))
                  (try simp only [Act.put, List.setIfInBounds_toArray, List.set_cons_zero, List.set_cons_succ])
                  go_loopg [9, 12, 34] k2 (fun kq v9 v12 v34 w' => ∃ (x9_3 : List (List Int)) (x12_3 : Bool) (x34_3 : Int), v12 = .bool x12_3 ∧ v34 = .int .i64 x34_3 ∧ Aside0 (laws_growthHashes.l2 kq x6_1 x9_3 x12_3 l0 (l0.length : Int) x28_2 x6_1 (x6_1.length : Int) x34_3 ((rd_T52 l0 x28_2).f0) ((rd_T52 l0 x28_2).f1) = some (r1, r2)) ∧ Aside0 (kq ≤ k2) ∧ Aside0 (Kd.N k58 58 w' w.heap.size (fun k_ => (P1_ k_ ∨ w.heap.size ≤ k_) ∧ some k_ ≠ (v9 : Value).ownBlock ∧ k_ ≠ gb323) (.slice Ao20 x6_1.length co20) x6_1) ∧ Aside0 (Kd.N (Kd.slice 5 (Kd.int .u8)) 28 w' w.heap.size (fun k_ => (P1_ k_ ∨ w.heap.size ≤ k_) ∧ some k_ ≠ ((.slice Ao20 x6_1.length co20) : Value).ownBlock ∧ some k_ ≠ ((.slice Ao20 x6_1.length co20) : Value).ownBlock ∧ k_ ≠ gb323) v9 x9_3) ∧ Aside0 (Kd.N k58 58 w' w.heap.size (fun k_ => (P1_ k_ ∨ w.heap.size ≤ k_) ∧ some k_ ≠ (v9 : Value).ownBlock ∧ k_ ≠ gb323) (.slice Ao20 x6_1.length co20) x6_1) ∧ Aside0 (w'.heap[gb323]? = some (.cells #[.int .u64 ((rd_T52 l0 x28_2).f0), .int .u64 ((rd_T52 l0 x28_2).f1)] 52 (0, 0))) ∧ Aside0 (Below w.heap.size w w'))
                  case atStart => exact ⟨(x9_2), (false), (0), (by first | rfl | (simp; done) | (simp [*]; done)), (by first | rfl | (simp; done) | (simp [*]; done)), H', ⟨Nat.le_refl _⟩, ⟨by (with_reducible repeat (first | apply Kd.N_alloc | apply Kd.N_drewN | apply Kd.N_drew)); exact Kd.N_mono (Kd.N_far (p := ⟨gb323, 1, none⟩) (Kd.N_far (p := ⟨gb323, 0, none⟩) (Kd.N_mono HO_6.out (fun k_ hk => (⟨hk, hk.2⟩ : _ ∧ k_ ≠ gb323))) (fun _ hk => hk.2) (.int .u64 ((rd_T52 l0 x28_2).f0))) (fun _ hk => hk.2) (.int .u64 ((rd_T52 l0 x28_2).f1))) (fun _ hk => ⟨hk.1.1.1, ⟨hk.1.1.2, hk.1.2⟩⟩)⟩, ⟨by (with_reducible repeat (first | apply Kd.N_alloc | apply Kd.N_drewN | apply Kd.N_drew)); exact Kd.N_mono (Kd.N_far (p := ⟨gb323, 1, none⟩) (Kd.N_far (p := ⟨gb323, 0, none⟩) (Kd.N_mono HO_9.out (fun k_ hk => (⟨hk, hk.2⟩ : _ ∧ k_ ≠ gb323))) (fun _ hk => hk.2) (.int .u64 ((rd_T52 l0 x28_2).f0))) (fun _ hk => hk.2) (.int .u64 ((rd_T52 l0 x28_2).f1))) (fun _ hk => ⟨hk.1.1.1, ⟨hk.1.1.2, ⟨hk.1.1.2, hk.1.2⟩⟩⟩)⟩, ⟨by (with_reducible repeat (first | apply Kd.N_alloc | apply Kd.N_drewN | apply Kd.N_drew)); exact Kd.N_mono (Kd.N_far (p := ⟨gb323, 1, none⟩) (Kd.N_far (p := ⟨gb323, 0, none⟩) (Kd.N_mono HO_6.out (fun k_ hk => (⟨hk, hk.2⟩ : _ ∧ k_ ≠ gb323))) (fun _ hk => hk.2) (.int .u64 ((rd_T52 l0 x28_2).f0))) (fun _ hk => hk.2) (.int .u64 ((rd_T52 l0 x28_2).f1))) (fun _ hk => ⟨hk.1.1.1, ⟨hk.1.1.2, hk.1.2⟩⟩)⟩, ⟨by (with_reducible repeat (first | refine blk_drewN ?_ _ | refine blk_drew ?_ | refine blk_alloc ?_ _)); refine blk_put (cs := #[.int .u64 ((rd_T52 l0 x28_2).f0), .int .u64 0]) ?_ 1 _ rfl; (with_reducible repeat (first | refine blk_drewN ?_ _ | refine blk_drew ?_ | refine blk_alloc ?_ _)); refine blk_put (cs := #[.int .u64 0, .int .u64 0]) ?_ 0 _ rfl; (with_reducible repeat (first | refine blk_drewN ?_ _ | refine blk_drew ?_ | refine blk_alloc ?_ _)); exact BK323.out⟩, ⟨by repeat (first | (with_reducible first | exact HB.out | apply below_alloc | apply pw_below_drewN | apply below_drew1 | refine below_set ?_ GE323.out) | exact HB.out)⟩⟩
                  case round =>
                    clear H'
                    try clear c1
                    try clear p2
                    try clear c3
                    try clear c3b0
                    try clear p3
                    try clear q3
                    try clear hx3
                    try clear c4
                    try clear c4b0
                    try clear c5
                    try clear c5b0
                    try clear p6
                    try clear c7
                    try clear c8
                    try clear c15
                    try clear c15b0
                    try clear c16
                    try clear c16b0
                    try clear c17
                    try clear c17b0
                    try clear hcz11_0
                    try clear hcz11_1
                    try clear hcz11_2
                    try clear hcz19_0
                    try clear hcz19_1
                    try clear hcz9_0
                    try clear hcz9_1
                    try clear hcz9_2
                    try clear hfz11_0
                    try clear hfz11_1
                    try clear hfz11_2
                    try clear hfz19_0
                    try clear hfz19_1
                    try clear hfz9_0
                    try clear hfz9_1
                    try clear hfz9_2
                    try clear hx314_0
                    try clear hx314_1
                    try clear hx314_2
                    try clear hx322_0
                    try clear hx322_1
                    try clear p2
                    try clear p3
                    try clear p314
                    try clear p322
                    try clear p6
                    try clear q3
                    try clear q314
                    try clear q322
                    obtain ⟨x9_3, x12_3, x34_3, rfl, rfl, HA, HK3, HO_6, HO_9, HO_32, BK323, HB⟩ := hrel
                    cases gk with
                    | zero => exact absurd HA.out (by simp [laws_growthHashes.l2])
                    | succ k3 =>
                      have H := HA.out
                      clear HA
                      simp only [laws_growthHashes.l2] at H
                      by_cases c21 : x34_3 < (x6_1.length : Int)
                      · rw [if_pos c21] at H
                        have c21b0 : decide (x34_3 < (x6_1.length : Int)) = true := decide_eq_true c21
                        clear c21
                        by_cases c22 : 0 ≤ x34_3
                        · rw [if_pos c22] at H
                          have c22b0 : decide (0 ≤ x34_3) = true := decide_eq_true c22
                          clear c22
                          by_cases c23 : x34_3 < (x6_1.length : Int)
                          · rw [if_pos c23] at H
                            have c23b0 : decide (x34_3 < (x6_1.length : Int)) = true := decide_eq_true c23
                            clear c23
                            by_cases c24 : (((rd_T58 x6_1 x34_3).f0.f0) == ((rd_T52 l0 x28_2).f0) && (((rd_T58 x6_1 x34_3).f0.f1) == ((rd_T52 l0 x28_2).f1))) = true
                            · rw [if_pos c24] at H
                              have c24b0 : (((rd_T58 x6_1 x34_3).f0.f0) == ((rd_T52 l0 x28_2).f0) && (((rd_T58 x6_1 x34_3).f0.f1) == ((rd_T52 l0 x28_2).f1))) = true := c24
                              (try (have c24b1 : decide (((rd_T58 x6_1 x34_3).f0.f0) = ((rd_T52 l0 x28_2).f0) && (((rd_T58 x6_1 x34_3).f0.f1) == ((rd_T52 l0 x28_2).f1))) = true := by simpa using c24))
                              (try (have c24b2 : (((rd_T58 x6_1 x34_3).f0.f0) == ((rd_T52 l0 x28_2).f0) && (((rd_T58 x6_1 x34_3).f0.f1) == ((rd_T52 l0 x28_2).f1))) = true := by simpa using c24))
                              clear c24
                              by_cases c25 : x12_3 = true
                              · subst c25
                                have H1 : (laws_growthHashes.l2 k3 x6_1 x9_3 true l0 (l0.length : Int) x28_2 x6_1 (x6_1.length : Int) (wrap64 (x34_3 + 1)) ((rd_T52 l0 x28_2).f0) ((rd_T52 l0 x28_2).f1)) = some (r1, r2) := by rw [if_pos rfl] at H; exact H
                                clear H
                                have H := H1
                                clear H1
                                have H' := aq H
                                clear H
                                have p324 : 0 ≤ (x34_3 : Int) := of_decide_eq_true (by first | (with_reducible assumption) | assumption)
                                have q324 : x34_3 < (x6_1.length : Int) := of_decide_eq_true (by first | (with_reducible assumption) | assumption)
                                obtain ⟨ad324, A324_2, c324_2, e324, hx324_0, hx324_1, hx324_2, hl324_2, hi324_2⟩ := at_T58 (Kd.N_reads' HO_32.out).2.2 x34_3 p324 q324
                                cases e324
                                obtain ⟨ce324, hce324, hMe324, hcc324⟩ := Kd.N_get HO_32.out z58 x34_3 p324 (by first | exact q324 | exact of_decide_eq_true (by first | (with_reducible assumption) | assumption) | (have e_ := (Kd.N_reads' HO_32.out).1; omega))
                                obtain ⟨ua324_2, uc324_2, rfl, ul324_2, ge324_2⟩ := k58_openF hMe324
                                have hv324_2 := hcc324 2 _ rfl
                                rw [add_field _ _ 2 (by omega)] at hv324_2
                                replace hv324_2 := Option.some.inj (hv324_2.symm.trans hx324_2)
                                injection hv324_2 with hva_ hvn_ hvc_
                                rw [hva_] at ge324_2
                                rw [hvc_] at ul324_2
                                have HL324_2 := aq (show Kd.V (Kd.int .u8) 5 _ w.heap.size _ _ ((rd_T58 x6_1 x34_3).f1) from Kd.V_mk ul324_2 ge324_2)
                                clear hva_ hvn_ hvc_ ge324_2 ul324_2
                                clear hcc324 hce324
                                have HR324_2 := aq hi324_2
                                have HC324_2 := aq hl324_2
                                clear hi324_2 hl324_2
                                replace p324 := eq_true p324
                                replace q324 := eq_true q324
                                go_wp2_with (first | ((with_reducible refine gate_dst (N := 14) rfl ?_); refine be 14 #[.int .u64 0, .int .u64 0, .slice none 0 0] 58 ?_; intro gb325 hg w26 hbox hb; have BK325 := aq (hbox); have GW325 := aq ((by rw [hg]; exact (below_size (bw HB)) : w.heap.size ≤ gb325)); have GE325 := aq ((by rw [hg]; exact (below_size (bw HB)) : w.heap.size ≤ gb325)); have NB323_325 := aq ((by rw [hg]; exact Nat.ne_of_lt (blk_lt (g := gb323) (o := .cells #[.int .u64 ((rd_T52 l0 x28_2).f0), .int .u64 ((rd_T52 l0 x28_2).f1)] 52 (0, 0)) (bq BK323)) : gb323 ≠ gb325)); have NB325_323 := aq ((by rw [hg]; exact Nat.ne_of_gt (blk_lt (g := gb323) (o := .cells #[.int .u64 ((rd_T52 l0 x28_2).f0), .int .u64 ((rd_T52 l0 x28_2).f1)] 52 (0, 0)) (bq BK323)) : gb325 ≠ gb323)); replace HO_6 := aq (Kd.N_below (Kd.N_elderB (nq HO_6) gb325 (Nat.le_of_eq hg.symm)) hb); replace HO_9 := aq (Kd.N_below (Kd.N_elderB (nq HO_9) gb325 (Nat.le_of_eq hg.symm)) hb); replace HO_32 := aq (Kd.N_below (Kd.N_elderB (nq HO_32) gb325 (Nat.le_of_eq hg.symm)) hb); replace HL324_2 := aq (Kd.V_below (Kd.V_elderB (vq HL324_2) gb325 (Nat.le_of_eq hg.symm)) hb); replace BK323 := aq (blk_below (bq BK323) hb); replace HR324_2 := aq True.intro; replace HB := aq (below_step (bw HB) hb); clear hb hbox hg; have hnb27 := NB325_323.out; have hnc27 := NB323_325.out; have hcz28_0 : w26.cell? ⟨gb325, 0, none⟩ = some (.int .u64 0) := bc BK325 0; have hcz28_1 : w26.cell? ⟨gb325, 1, none⟩ = some (.int .u64 0) := bc BK325 1; have hcz28_2 : w26.cell? ⟨gb325, 2, none⟩ = some (.slice none 0 0) := bc BK325 2; have hfz28_0 := bz BK325 0; have hfz28_1 := bz BK325 1; have hfz28_2 := bz BK325 2; have hcz29_0 : w26.cell? ⟨gb323, 0, none⟩ = some (.int .u64 ((rd_T52 l0 x28_2).f0)) := bc BK323 0; have hcz29_1 : w26.cell? ⟨gb323, 1, none⟩ = some (.int .u64 ((rd_T52 l0 x28_2).f1)) := bc BK323 1; have hfz29_0 := bz BK323 0; have hfz29_1 := bz BK323 1))
                                go_roundg k3
                                case measure => have := HK1.out; have := HK2.out; have := HK3.out; omega
                                case rel => exact ⟨(x9_3), (true), (wrap64 (x34_3 + 1)), (by first | rfl | (simp; done) | (simp [*]; done)), (by first | rfl | (simp; done) | (simp [*]; done)), H', ⟨by have := HK1.out; have := HK2.out; have := HK3.out; omega⟩, ⟨by (with_reducible repeat (first | apply Kd.N_alloc | apply Kd.N_drewN | apply Kd.N_drew)); exact Kd.N_mono (Kd.N_far (p := ⟨gb325, 2, none⟩) (Kd.N_far (p := ⟨gb325, 1, none⟩) (Kd.N_far (p := ⟨gb325, 0, none⟩) (Kd.N_mono HO_6.out (fun k_ hk => (⟨hk, hk.2⟩ : _ ∧ k_ ≠ gb325))) (fun _ hk => hk.2) (.int .u64 ((rd_T58 x6_1 x34_3).f0.f0))) (fun _ hk => hk.2) (.int .u64 ((rd_T58 x6_1 x34_3).f0.f1))) (fun _ hk => hk.2) (.slice A324_2 ((rd_T58 x6_1 x34_3).f1).length c324_2)) (fun _ hk => ⟨hk.1.1.1, ⟨hk.1.1.2.1, hk.1.1.2.2⟩⟩)⟩, ⟨by (with_reducible repeat (first | apply Kd.N_alloc | apply Kd.N_drewN | apply Kd.N_drew)); exact Kd.N_mono (Kd.N_far (p := ⟨gb325, 2, none⟩) (Kd.N_far (p := ⟨gb325, 1, none⟩) (Kd.N_far (p := ⟨gb325, 0, none⟩) (Kd.N_mono HO_9.out (fun k_ hk => (⟨hk, hk.2⟩ : _ ∧ k_ ≠ gb325))) (fun _ hk => hk.2) (.int .u64 ((rd_T58 x6_1 x34_3).f0.f0))) (fun _ hk => hk.2) (.int .u64 ((rd_T58 x6_1 x34_3).f0.f1))) (fun _ hk => hk.2) (.slice A324_2 ((rd_T58 x6_1 x34_3).f1).length c324_2)) (fun _ hk => ⟨hk.1.1.1, ⟨hk.1.1.2.1, ⟨hk.1.1.2.2.1, hk.1.1.2.2.2⟩⟩⟩)⟩, ⟨by (with_reducible repeat (first | apply Kd.N_alloc | apply Kd.N_drewN | apply Kd.N_drew)); exact Kd.N_mono (Kd.N_far (p := ⟨gb325, 2, none⟩) (Kd.N_far (p := ⟨gb325, 1, none⟩) (Kd.N_far (p := ⟨gb325, 0, none⟩) (Kd.N_mono HO_32.out (fun k_ hk => (⟨hk, hk.2⟩ : _ ∧ k_ ≠ gb325))) (fun _ hk => hk.2) (.int .u64 ((rd_T58 x6_1 x34_3).f0.f0))) (fun _ hk => hk.2) (.int .u64 ((rd_T58 x6_1 x34_3).f0.f1))) (fun _ hk => hk.2) (.slice A324_2 ((rd_T58 x6_1 x34_3).f1).length c324_2)) (fun _ hk => ⟨hk.1.1.1, ⟨hk.1.1.2.1, hk.1.1.2.2⟩⟩)⟩, ⟨by (with_reducible repeat (first | refine blk_drewN ?_ _ | refine blk_drew ?_ | refine blk_alloc ?_ _)); refine blk_far ?_ NB323_325.out _; (with_reducible repeat (first | refine blk_drewN ?_ _ | refine blk_drew ?_ | refine blk_alloc ?_ _)); refine blk_far ?_ NB323_325.out _; (with_reducible repeat (first | refine blk_drewN ?_ _ | refine blk_drew ?_ | refine blk_alloc ?_ _)); refine blk_far ?_ NB323_325.out _; (with_reducible repeat (first | refine blk_drewN ?_ _ | refine blk_drew ?_ | refine blk_alloc ?_ _)); exact BK323.out⟩, ⟨by repeat (first | (with_reducible first | exact HB.out | apply below_alloc | apply pw_below_drewN | apply below_drew1 | refine below_set ?_ GE323.out | refine below_set ?_ GE325.out) | exact HB.out)⟩⟩
                              · replace c25 := Bool.eq_false_iff.mpr c25
                                subst c25
                                have H1 : ((some (([] : List Int) : List Int)).bind fun y326 => (if y326.length + ((rd_T58 x6_1 x34_3).f1).length < 140737488355328 then (if x9_3.length < 5864062014805 then (laws_growthHashes.l2 k3 x6_1 (x9_3 ++ [(y326 ++ ((rd_T58 x6_1 x34_3).f1))]) true l0 (l0.length : Int) x28_2 x6_1 (x6_1.length : Int) (wrap64 (x34_3 + 1)) ((rd_T52 l0 x28_2).f0) ((rd_T52 l0 x28_2).f1)) else (none)) else (none))) = some (r1, r2) := by rw [if_neg (show ¬ (false = true) by decide)] at H; exact H
                                clear H
                                have H := H1
                                clear H1
                                obtain ⟨y326, hy326⟩ : ∃ y_ : List Int, y_ = (([] : List Int)) := ⟨_, rfl⟩
                                replace H : (if y326.length + ((rd_T58 x6_1 x34_3).f1).length < 140737488355328 then (if x9_3.length < 5864062014805 then (laws_growthHashes.l2 k3 x6_1 (x9_3 ++ [(y326 ++ ((rd_T58 x6_1 x34_3).f1))]) true l0 (l0.length : Int) x28_2 x6_1 (x6_1.length : Int) (wrap64 (x34_3 + 1)) ((rd_T52 l0 x28_2).f0) ((rd_T52 l0 x28_2).f1)) else (none)) else (none)) = some (r1, r2) := by first | (rw [hy326]; with_reducible exact H) | (have H2_ := (Option.bind_some _ _).symm.trans H; rw [hy326]; with_reducible exact H2_) | (have H2_ := (Option.bind_some _ _).symm.trans H; with_reducible exact H2_) | with_reducible exact H | (rw [hy326]; exact H) | exact H
                                have Ny326 := aq hy326
                                clear hy326
                                by_cases c30 : y326.length + ((rd_T58 x6_1 x34_3).f1).length < 140737488355328
                                · rw [if_pos c30] at H
                                  have LMc30 := aq c30
                                  clear c30
                                  obtain ⟨y329, hy329⟩ : ∃ y_ : List Int, y_ = (y326 ++ ((rd_T58 x6_1 x34_3).f1)) := ⟨_, rfl⟩
                                  replace H : (if x9_3.length < 5864062014805 then (laws_growthHashes.l2 k3 x6_1 (x9_3 ++ [y329]) true l0 (l0.length : Int) x28_2 x6_1 (x6_1.length : Int) (wrap64 (x34_3 + 1)) ((rd_T52 l0 x28_2).f0) ((rd_T52 l0 x28_2).f1)) else (none)) = some (r1, r2) := by first | (rw [hy329]; with_reducible exact H) | (have H2_ := (Option.bind_some _ _).symm.trans H; rw [hy329]; with_reducible exact H2_) | (have H2_ := (Option.bind_some _ _).symm.trans H; with_reducible exact H2_) | with_reducible exact H | (rw [hy329]; exact H) | exact H
                                  have Ny329 := aq hy329
                                  clear hy329
                                  by_cases c31 : x9_3.length < 5864062014805
                                  · rw [if_pos c31] at H
                                    have LMc31 := aq c31
                                    clear c31
                                    obtain ⟨y332, hy332⟩ : ∃ y_ : List (List Int), y_ = (x9_3 ++ [y329]) := ⟨_, rfl⟩
                                    replace H : (laws_growthHashes.l2 k3 x6_1 y332 true l0 (l0.length : Int) x28_2 x6_1 (x6_1.length : Int) (wrap64 (x34_3 + 1)) ((rd_T52 l0 x28_2).f0) ((rd_T52 l0 x28_2).f1)) = some (r1, r2) := by first | (rw [hy332]; with_reducible exact H) | (have H2_ := (Option.bind_some _ _).symm.trans H; rw [hy332]; with_reducible exact H2_) | (have H2_ := (Option.bind_some _ _).symm.trans H; with_reducible exact H2_) | with_reducible exact H | (rw [hy332]; exact H) | exact H
                                    have Ny332 := aq hy332
                                    clear hy332
                                    have H' := aq H
                                    clear H
                                    have p324 : 0 ≤ (x34_3 : Int) := of_decide_eq_true (by first | (with_reducible assumption) | assumption)
                                    have q324 : x34_3 < (x6_1.length : Int) := of_decide_eq_true (by first | (with_reducible assumption) | assumption)
                                    obtain ⟨ad324, A324_2, c324_2, e324, hx324_0, hx324_1, hx324_2, hl324_2, hi324_2⟩ := at_T58 (Kd.N_reads' HO_32.out).2.2 x34_3 p324 q324
                                    cases e324
                                    obtain ⟨ce324, hce324, hMe324, hcc324⟩ := Kd.N_get HO_32.out z58 x34_3 p324 (by first | exact q324 | exact of_decide_eq_true (by first | (with_reducible assumption) | assumption) | (have e_ := (Kd.N_reads' HO_32.out).1; omega))
                                    obtain ⟨ua324_2, uc324_2, rfl, ul324_2, ge324_2⟩ := k58_openF hMe324
                                    have hv324_2 := hcc324 2 _ rfl
                                    rw [add_field _ _ 2 (by omega)] at hv324_2
                                    replace hv324_2 := Option.some.inj (hv324_2.symm.trans hx324_2)
                                    injection hv324_2 with hva_ hvn_ hvc_
                                    rw [hva_] at ge324_2
                                    rw [hvc_] at ul324_2
                                    have HL324_2 := aq (show Kd.V (Kd.int .u8) 5 _ w.heap.size _ _ ((rd_T58 x6_1 x34_3).f1) from Kd.V_mk ul324_2 ge324_2)
                                    clear hva_ hvn_ hvc_ ge324_2 ul324_2
                                    clear hcc324 hce324
                                    have HR324_2 := aq hi324_2
                                    have HC324_2 := aq hl324_2
                                    clear hi324_2 hl324_2
                                    replace p324 := eq_true p324
                                    replace q324 := eq_true q324
                                    go_wp2_with (first | ((with_reducible refine gate_dst (N := 14) rfl ?_); refine be 14 #[.int .u64 0, .int .u64 0, .slice none 0 0] 58 ?_; intro gb325 hg w32 hbox hb; have BK325 := aq (hbox); have GW325 := aq ((by rw [hg]; exact (below_size (bw HB)) : w.heap.size ≤ gb325)); have GE325 := aq ((by rw [hg]; exact (below_size (bw HB)) : w.heap.size ≤ gb325)); have NB323_325 := aq ((by rw [hg]; exact Nat.ne_of_lt (blk_lt (g := gb323) (o := .cells #[.int .u64 ((rd_T52 l0 x28_2).f0), .int .u64 ((rd_T52 l0 x28_2).f1)] 52 (0, 0)) (bq BK323)) : gb323 ≠ gb325)); have NB325_323 := aq ((by rw [hg]; exact Nat.ne_of_gt (blk_lt (g := gb323) (o := .cells #[.int .u64 ((rd_T52 l0 x28_2).f0), .int .u64 ((rd_T52 l0 x28_2).f1)] 52 (0, 0)) (bq BK323)) : gb325 ≠ gb323)); replace HO_6 := aq (Kd.N_below (Kd.N_elderB (nq HO_6) gb325 (Nat.le_of_eq hg.symm)) hb); replace HO_9 := aq (Kd.N_below (Kd.N_elderB (nq HO_9) gb325 (Nat.le_of_eq hg.symm)) hb); replace HO_32 := aq (Kd.N_below (Kd.N_elderB (nq HO_32) gb325 (Nat.le_of_eq hg.symm)) hb); replace HL324_2 := aq (Kd.V_below (Kd.V_elderB (vq HL324_2) gb325 (Nat.le_of_eq hg.symm)) hb); replace BK323 := aq (blk_below (bq BK323) hb); replace HR324_2 := aq True.intro; replace HB := aq (below_step (bw HB) hb); clear hb hbox hg; have hnb33 := NB325_323.out; have hnc33 := NB323_325.out; have hcz34_0 : w32.cell? ⟨gb325, 0, none⟩ = some (.int .u64 0) := bc BK325 0; have hcz34_1 : w32.cell? ⟨gb325, 1, none⟩ = some (.int .u64 0) := bc BK325 1; have hcz34_2 : w32.cell? ⟨gb325, 2, none⟩ = some (.slice none 0 0) := bc BK325 2; have hfz34_0 := bz BK325 0; have hfz34_1 := bz BK325 1; have hfz34_2 := bz BK325 2; have hcz35_0 : w32.cell? ⟨gb323, 0, none⟩ = some (.int .u64 ((rd_T52 l0 x28_2).f0)) := bc BK323 0; have hcz35_1 : w32.cell? ⟨gb323, 1, none⟩ = some (.int .u64 ((rd_T52 l0 x28_2).f1)) := bc BK323 1; have hfz35_0 := bz BK323 0; have hfz35_1 := bz BK323 1) | ((with_reducible refine gate_dst (N := 47) rfl ?_); refine Kd.R_lit (Kd.int .u8) _ 5 ?hg (N := 47) ?hd (xs := ([] : List Int)) (inner := []) (ok := fun _ => True) (okp := fun _ => True) ?hr ?hp (fun _ hk => hk) trivial (Below.refl _ _) (Nat.le_refl _) (by simp) ?_; (case hd => rfl); (case hg => rfl); (case hr => first | (go_simp; done) | (go_simp; rfl)); (case hp => exact (Reps.none _ _)); intro v327 w36 ho37 hb hg_ hnew_; clear hg_ hnew_; (first | rw [← Ny326.out] at ho37 | (simp only [Int.reduceToNat] at ho37; rw [← Ny326.out] at ho37)); have HO328 := aq (Kd.R_lower (Kd.R_newM (M := fun k_ => (w.heap.size ≤ k_)) ho37 (below_size (bw HB)) (fun k_ h_ => h_)) (below_size (bw HB))); replace HO_6 := aq (Kd.N_elder' (by (with_reducible repeat (first | apply Kd.N_alloc | apply Kd.N_drewN | apply Kd.N_drew)); exact (Kd.N_mono (Kd.N_far (p := ⟨gb325, 2, none⟩) (Kd.N_far (p := ⟨gb325, 1, none⟩) (Kd.N_far (p := ⟨gb325, 0, none⟩) (Kd.N_mono HO_6.out (fun k_ hk => (⟨hk, hk.2⟩ : _ ∧ k_ ≠ gb325))) (fun _ hk => hk.2) (.int .u64 ((rd_T58 x6_1 x34_3).f0.f0))) (fun _ hk => hk.2) (.int .u64 ((rd_T58 x6_1 x34_3).f0.f1))) (fun _ hk => hk.2) (.slice A324_2 ((rd_T58 x6_1 x34_3).f1).length c324_2)) (fun _ h_ => h_.1))) (Kd.R_base ho37) hb); replace HO_9 := aq (Kd.N_elder' (by (with_reducible repeat (first | apply Kd.N_alloc | apply Kd.N_drewN | apply Kd.N_drew)); exact (Kd.N_mono (Kd.N_far (p := ⟨gb325, 2, none⟩) (Kd.N_far (p := ⟨gb325, 1, none⟩) (Kd.N_far (p := ⟨gb325, 0, none⟩) (Kd.N_mono HO_9.out (fun k_ hk => (⟨hk, hk.2⟩ : _ ∧ k_ ≠ gb325))) (fun _ hk => hk.2) (.int .u64 ((rd_T58 x6_1 x34_3).f0.f0))) (fun _ hk => hk.2) (.int .u64 ((rd_T58 x6_1 x34_3).f0.f1))) (fun _ hk => hk.2) (.slice A324_2 ((rd_T58 x6_1 x34_3).f1).length c324_2)) (fun _ h_ => h_.1))) (Kd.R_base ho37) hb); replace HO_32 := aq (Kd.N_elder' (by (with_reducible repeat (first | apply Kd.N_alloc | apply Kd.N_drewN | apply Kd.N_drew)); exact (Kd.N_mono (Kd.N_far (p := ⟨gb325, 2, none⟩) (Kd.N_far (p := ⟨gb325, 1, none⟩) (Kd.N_far (p := ⟨gb325, 0, none⟩) (Kd.N_mono HO_32.out (fun k_ hk => (⟨hk, hk.2⟩ : _ ∧ k_ ≠ gb325))) (fun _ hk => hk.2) (.int .u64 ((rd_T58 x6_1 x34_3).f0.f0))) (fun _ hk => hk.2) (.int .u64 ((rd_T58 x6_1 x34_3).f0.f1))) (fun _ hk => hk.2) (.slice A324_2 ((rd_T58 x6_1 x34_3).f1).length c324_2)) (fun _ h_ => h_.1))) (Kd.R_base ho37) hb); replace BK323 := aq (blk_below (g := gb323) (o := .cells #[.int .u64 ((rd_T52 l0 x28_2).f0), .int .u64 ((rd_T52 l0 x28_2).f1)] 52 (0, 0)) (by (with_reducible repeat (first | refine blk_drewN ?_ _ | refine blk_drew ?_ | refine blk_alloc ?_ _)); refine blk_far ?_ NB323_325.out _; (with_reducible repeat (first | refine blk_drewN ?_ _ | refine blk_drew ?_ | refine blk_alloc ?_ _)); refine blk_far ?_ NB323_325.out _; (with_reducible repeat (first | refine blk_drewN ?_ _ | refine blk_drew ?_ | refine blk_alloc ?_ _)); refine blk_far ?_ NB323_325.out _; (with_reducible repeat (first | refine blk_drewN ?_ _ | refine blk_drew ?_ | refine blk_alloc ?_ _)); exact BK323.out) hb); replace HR324_2 := aq (Kd.C_below ((Kd.V_reads' (by (with_reducible repeat (first | apply Kd.V_alloc | apply Kd.V_drewN | apply Kd.V_drew)); exact (Kd.V_mono (Kd.V_far (p := ⟨gb325, 2, none⟩) (Kd.V_far (p := ⟨gb325, 1, none⟩) (Kd.V_far (p := ⟨gb325, 0, none⟩) (Kd.V_mono HL324_2.out (fun k_ hk => (⟨hk, hk.2⟩ : _ ∧ k_ ≠ gb325))) (fun _ hk => hk.2) (.int .u64 ((rd_T58 x6_1 x34_3).f0.f0))) (fun _ hk => hk.2) (.int .u64 ((rd_T58 x6_1 x34_3).f0.f1))) (fun _ hk => hk.2) (.slice A324_2 ((rd_T58 x6_1 x34_3).f1).length c324_2)) (fun _ h_ => h_.1)))).2.2) hb); replace HL324_2 := aq (Kd.V_elder' (by (with_reducible repeat (first | apply Kd.V_alloc | apply Kd.V_drewN | apply Kd.V_drew)); exact (Kd.V_mono (Kd.V_far (p := ⟨gb325, 2, none⟩) (Kd.V_far (p := ⟨gb325, 1, none⟩) (Kd.V_far (p := ⟨gb325, 0, none⟩) (Kd.V_mono HL324_2.out (fun k_ hk => (⟨hk, hk.2⟩ : _ ∧ k_ ≠ gb325))) (fun _ hk => hk.2) (.int .u64 ((rd_T58 x6_1 x34_3).f0.f0))) (fun _ hk => hk.2) (.int .u64 ((rd_T58 x6_1 x34_3).f0.f1))) (fun _ hk => hk.2) (.slice A324_2 ((rd_T58 x6_1 x34_3).f1).length c324_2)) (fun _ h_ => h_.1))) (Kd.R_base ho37) hb); replace BK325 := aq (blk_below (g := gb325) (o := .cells #[.int .u64 ((rd_T58 x6_1 x34_3).f0.f0), .int .u64 ((rd_T58 x6_1 x34_3).f0.f1), .slice A324_2 ((rd_T58 x6_1 x34_3).f1).length c324_2] 58 (0, 0)) (by (with_reducible repeat (first | refine blk_drewN ?_ _ | refine blk_drew ?_ | refine blk_alloc ?_ _)); refine blk_put (cs := #[.int .u64 ((rd_T58 x6_1 x34_3).f0.f0), .int .u64 ((rd_T58 x6_1 x34_3).f0.f1), .slice none 0 0]) ?_ 2 _ rfl; (with_reducible repeat (first | refine blk_drewN ?_ _ | refine blk_drew ?_ | refine blk_alloc ?_ _)); refine blk_put (cs := #[.int .u64 ((rd_T58 x6_1 x34_3).f0.f0), .int .u64 0, .slice none 0 0]) ?_ 1 _ rfl; (with_reducible repeat (first | refine blk_drewN ?_ _ | refine blk_drew ?_ | refine blk_alloc ?_ _)); refine blk_put (cs := #[.int .u64 0, .int .u64 0, .slice none 0 0]) ?_ 0 _ rfl; (with_reducible repeat (first | refine blk_drewN ?_ _ | refine blk_drew ?_ | refine blk_alloc ?_ _)); exact BK325.out) hb); replace HB := aq (below_step (bw HB) hb); clear hb ho37; have hcz38_0 : w36.cell? ⟨gb325, 0, none⟩ = some (.int .u64 ((rd_T58 x6_1 x34_3).f0.f0)) := bc BK325 0; have hcz38_1 : w36.cell? ⟨gb325, 1, none⟩ = some (.int .u64 ((rd_T58 x6_1 x34_3).f0.f1)) := bc BK325 1; have hcz38_2 : w36.cell? ⟨gb325, 2, none⟩ = some (.slice A324_2 ((rd_T58 x6_1 x34_3).f1).length c324_2) := bc BK325 2; have hfz38_0 := bz BK325 0; have hfz38_1 := bz BK325 1; have hfz38_2 := bz BK325 2) | ((with_reducible refine gate_builtin (b := .append) (xs := #[.tmp 47, .tmp 49]) rfl ?_); at_builtin; refine Kd.R_append_rows (Kd.int .u8) (w0 := w) w.heap.size rfl (.tmp 47) (.tmp 49) 28 5 (.int .u8 0) 1 rfl Tryd.underlying28 info5 rfl (by decide) (by omega) v327 y326 ((rd_T58 x6_1 x34_3).f1) _ _ _ (fun k_ => (w.heap.size ≤ k_)) (fun _ => False) rfl rfl ?aO ?aR (fun _ _ h => h) (fun _ h => h.elim) ?aF ?aB ?aS ?aL ?_; (case aR => repeat (first | exact (by repeat (first | (with_reducible exact HR324_2.out) | (with_reducible refine Kd.C_alloc ?_ _) | (with_reducible refine Kd.C_drewN ?_ _) | (with_reducible refine Kd.C_drew ?_) | exact HR324_2.out)) | (with_reducible refine Kd.C_alloc ?_ _) | (with_reducible refine Kd.C_drewN ?_ _) | (with_reducible refine Kd.C_drew ?_))); (case aB => exact (bw HB)); (case aF => exact (fun k_ hk => (Nat.le_trans (below_size (bw HB)) hk))); (case aO => exact (by (with_reducible repeat (first | apply Kd.R_alloc | apply Kd.R_drewN | apply Kd.R_drew)); exact Kd.R_mono HO328.out (fun _ hk => hk.1))); (case aS => exact (below_size (bw HB))); (case aL => have := LMc30.out; omega); intro v330 w39 ho hb hg hat; rw [← Ny329.out] at ho; have HO331 := aq (ho); replace HO_6 := aq (Kd.N_afterv (ok := (fun k_ => (P1_ k_ ∨ w.heap.size ≤ k_) ∧ some k_ ≠ (u9 : Value).ownBlock ∧ k_ ≠ gb323 ∧ k_ ≠ gb325)) (by (with_reducible repeat (first | apply Kd.N_alloc | apply Kd.N_drewN | apply Kd.N_drew)); exact Kd.N_mono HO_6.out (fun _ hk => ⟨⟨hk.1.1.1, ⟨hk.1.1.2.1, ⟨hk.1.1.2.2, hk.1.2⟩⟩⟩, hk.2⟩)) hg hat); replace HO_9 := aq (Kd.N_afterv (ok := (fun k_ => (P1_ k_ ∨ w.heap.size ≤ k_) ∧ some k_ ≠ (.slice (some ad324) x6_1.length co20 : Value).ownBlock ∧ some k_ ≠ (.slice (some ad324) x6_1.length co20 : Value).ownBlock ∧ k_ ≠ gb323 ∧ k_ ≠ gb325)) (by (with_reducible repeat (first | apply Kd.N_alloc | apply Kd.N_drewN | apply Kd.N_drew)); exact Kd.N_mono HO_9.out (fun _ hk => ⟨⟨hk.1.1.1, ⟨hk.1.1.2.1, ⟨hk.1.1.2.2.1, ⟨hk.1.1.2.2.2, hk.1.2⟩⟩⟩⟩, hk.2⟩)) hg hat); replace HO_32 := aq (Kd.N_afterv (ok := (fun k_ => (P1_ k_ ∨ w.heap.size ≤ k_) ∧ some k_ ≠ (u9 : Value).ownBlock ∧ k_ ≠ gb323 ∧ k_ ≠ gb325)) (by (with_reducible repeat (first | apply Kd.N_alloc | apply Kd.N_drewN | apply Kd.N_drew)); exact Kd.N_mono HO_32.out (fun _ hk => ⟨⟨hk.1.1.1, ⟨hk.1.1.2.1, ⟨hk.1.1.2.2, hk.1.2⟩⟩⟩, hk.2⟩)) hg hat); replace BK323 := aq (blk_grown (g := gb323) (o := .cells #[.int .u64 ((rd_T52 l0 x28_2).f0), .int .u64 ((rd_T52 l0 x28_2).f1)] 52 (0, 0)) (bq BK323) hg (Kd.R_ne HO328.out BK323.out (by decide))); replace HL324_2 := aq (Kd.V_afterv (ok := (fun k_ => (P1_ k_ ∨ w.heap.size ≤ k_) ∧ some k_ ≠ (u9 : Value).ownBlock ∧ some k_ ≠ (.slice (some ad324) x6_1.length co20 : Value).ownBlock ∧ k_ ≠ gb323 ∧ k_ ≠ gb325)) (by (with_reducible repeat (first | apply Kd.V_alloc | apply Kd.V_drewN | apply Kd.V_drew)); exact Kd.V_mono HL324_2.out (fun _ hk => ⟨⟨hk.1.1.1.1, ⟨hk.1.1.1.2.1, ⟨hk.1.1.2, ⟨hk.1.1.1.2.2, hk.1.2⟩⟩⟩⟩, hk.2⟩)) hg hat); replace BK325 := aq (blk_grown (g := gb325) (o := .cells #[.int .u64 ((rd_T58 x6_1 x34_3).f0.f0), .int .u64 ((rd_T58 x6_1 x34_3).f0.f1), .slice A324_2 ((rd_T58 x6_1 x34_3).f1).length c324_2] 58 (0, 0)) (bq BK325) hg (Kd.R_ne HO328.out BK325.out (by decide))); replace HB := aq (hb); clear HO328; clear ho hb hg hat; obtain ⟨Ao41, co41, eo41⟩ := Kd.R_slice HO331.out; subst eo41) | ((with_reducible refine gate_builtin (b := .append) (xs := #[.tmp 46, .tmp 51]) rfl ?_); at_builtin; refine Kd.N_append (Kd.slice 5 (Kd.int .u8)) (w0 := w) w.heap.size rfl (.tmp 46) (.tmp 51) 25 28 (.slice none 0 0) 24 rfl Tryd.underlying25 info28 rfl (by decide) (by omega) u9 x9_3 y329 [.slice Ao41 y329.length co41] (fun k_ => (P1_ k_ ∨ w.heap.size ≤ k_) ∧ some k_ ≠ (.slice (some ad324) x6_1.length co20 : Value).ownBlock ∧ some k_ ≠ (.slice (some ad324) x6_1.length co20 : Value).ownBlock ∧ k_ ≠ gb323 ∧ k_ ≠ gb325) (fun k_ => ((fun k_ => (P1_ k_ ∨ w.heap.size ≤ k_) ∧ some k_ ≠ (.slice (some ad324) x6_1.length co20 : Value).ownBlock ∧ some k_ ≠ (.slice (some ad324) x6_1.length co20 : Value).ownBlock ∧ k_ ≠ gb323 ∧ k_ ≠ gb325)) k_ ∧ some k_ ≠ (u9 : Value).ownBlock) rfl rfl ?aP (fun _ hk => hk) ?aF ?aO ?aB ?aS ?aL ?_; (case aP => exact (Kd.FK_slice_mk (Kd.R_reads' (Kd.R_mono (ok' := (fun k_ => ((fun k_ => (P1_ k_ ∨ w.heap.size ≤ k_) ∧ some k_ ≠ (.slice (some ad324) x6_1.length co20 : Value).ownBlock ∧ some k_ ≠ (.slice (some ad324) x6_1.length co20 : Value).ownBlock ∧ k_ ≠ gb323 ∧ k_ ≠ gb325)) k_ ∧ some k_ ≠ (u9 : Value).ownBlock)) (Kd.R_types (Kd.R_types (Kd.R_apart' (Kd.R_apart' (Kd.R_apart' (HO331.out) (Kd.N_typed HO_6.out) (by decide)) (Kd.N_typed HO_32.out) (by decide)) (Kd.N_typed HO_9.out) (by decide)) BK323.out (by decide)) BK325.out (by decide)) (fun k_ hk => ⟨⟨(.inr (hk.1.1.1.1.1)), ⟨hk.1.1.1.1.2, ⟨hk.1.1.1.2, ⟨hk.1.2, hk.2⟩⟩⟩⟩, hk.1.1.2⟩))).2.1 (Kd.R_F (Kd.R_mono (ok' := (fun k_ => ((fun k_ => (P1_ k_ ∨ w.heap.size ≤ k_) ∧ some k_ ≠ (.slice (some ad324) x6_1.length co20 : Value).ownBlock ∧ some k_ ≠ (.slice (some ad324) x6_1.length co20 : Value).ownBlock ∧ k_ ≠ gb323 ∧ k_ ≠ gb325)) k_ ∧ some k_ ≠ (u9 : Value).ownBlock)) (Kd.R_types (Kd.R_types (Kd.R_apart' (Kd.R_apart' (Kd.R_apart' (HO331.out) (Kd.N_typed HO_6.out) (by decide)) (Kd.N_typed HO_32.out) (by decide)) (Kd.N_typed HO_9.out) (by decide)) BK323.out (by decide)) BK325.out (by decide)) (fun k_ hk => ⟨⟨(.inr (hk.1.1.1.1.1)), ⟨hk.1.1.1.1.2, ⟨hk.1.1.1.2, ⟨hk.1.2, hk.2⟩⟩⟩⟩, hk.1.1.2⟩))))); (case aB => exact (bw HB)); (case aF => exact (fun k_ hk => ⟨(.inr (Nat.le_trans (below_size (bw HB)) hk)), Kd.fresh' (Kd.N_lt (nq HO_6)) k_ hk, Kd.fresh' (Kd.N_lt (nq HO_32)) k_ hk, Kd.freshB (g := gb323) (o := .cells #[.int .u64 ((rd_T52 l0 x28_2).f0), .int .u64 ((rd_T52 l0 x28_2).f1)] 52 (0, 0)) (bq BK323) k_ hk, Kd.freshB (g := gb325) (o := .cells #[.int .u64 ((rd_T58 x6_1 x34_3).f0.f0), .int .u64 ((rd_T58 x6_1 x34_3).f0.f1), .slice A324_2 ((rd_T58 x6_1 x34_3).f1).length c324_2] 58 (0, 0)) (bq BK325) k_ hk⟩)); (case aO => exact (by (with_reducible repeat (first | apply Kd.N_alloc | apply Kd.N_drewN | apply Kd.N_drew)); exact Kd.N_mono HO_9.out (fun _ hk => ⟨hk.1.1, ⟨hk.1.2.1, ⟨hk.1.2.2.1, ⟨hk.1.2.2.2.1, hk.1.2.2.2.2⟩⟩⟩⟩))); (case aS => exact (below_size (bw HB))); (case aL => have := LMc31.out; omega); intro v333 w40 ho hb hg hat; rw [← Ny332.out] at ho; have HO334 := aq (ho); replace HO_6 := aq (Kd.N_afterv (ok := (fun k_ => (P1_ k_ ∨ w.heap.size ≤ k_) ∧ some k_ ≠ (.slice Ao41 y329.length co41 : Value).ownBlock ∧ k_ ≠ gb323 ∧ k_ ≠ gb325)) (by (with_reducible repeat (first | apply Kd.N_alloc | apply Kd.N_drewN | apply Kd.N_drew)); exact Kd.N_mono HO_6.out (fun _ hk => ⟨⟨hk.1.1, ⟨hk.2, ⟨hk.1.2.2.1, hk.1.2.2.2⟩⟩⟩, hk.1.2.1⟩)) hg hat); replace HO_32 := aq (Kd.N_afterv (ok := (fun k_ => (P1_ k_ ∨ w.heap.size ≤ k_) ∧ some k_ ≠ (.slice Ao41 y329.length co41 : Value).ownBlock ∧ k_ ≠ gb323 ∧ k_ ≠ gb325)) (by (with_reducible repeat (first | apply Kd.N_alloc | apply Kd.N_drewN | apply Kd.N_drew)); exact Kd.N_mono HO_32.out (fun _ hk => ⟨⟨hk.1.1, ⟨hk.2, ⟨hk.1.2.2.1, hk.1.2.2.2⟩⟩⟩, hk.1.2.1⟩)) hg hat); replace BK323 := aq (blk_grown (g := gb323) (o := .cells #[.int .u64 ((rd_T52 l0 x28_2).f0), .int .u64 ((rd_T52 l0 x28_2).f1)] 52 (0, 0)) (bq BK323) hg (Kd.N_ne HO_9.out BK323.out (by decide))); replace HL324_2 := aq (Kd.V_afterv (ok := (fun k_ => (P1_ k_ ∨ w.heap.size ≤ k_) ∧ some k_ ≠ (.slice (some ad324) x6_1.length co20 : Value).ownBlock ∧ some k_ ≠ (.slice Ao41 y329.length co41 : Value).ownBlock ∧ k_ ≠ gb323 ∧ k_ ≠ gb325)) (by (with_reducible repeat (first | apply Kd.V_alloc | apply Kd.V_drewN | apply Kd.V_drew)); exact Kd.V_mono HL324_2.out (fun _ hk => ⟨⟨hk.1.1, ⟨hk.1.2.2.1, ⟨hk.2, ⟨hk.1.2.2.2.1, hk.1.2.2.2.2⟩⟩⟩⟩, hk.1.2.1⟩)) hg hat); replace BK325 := aq (blk_grown (g := gb325) (o := .cells #[.int .u64 ((rd_T58 x6_1 x34_3).f0.f0), .int .u64 ((rd_T58 x6_1 x34_3).f0.f1), .slice A324_2 ((rd_T58 x6_1 x34_3).f1).length c324_2] 58 (0, 0)) (bq BK325) hg (Kd.N_ne HO_9.out BK325.out (by decide))); replace HB := aq (hb); clear HO_9 HO331; clear ho hb hg hat))
                                    go_roundg k3
                                    case measure => have := HK1.out; have := HK2.out; have := HK3.out; omega
                                    case rel => exact ⟨(y332), (true), (wrap64 (x34_3 + 1)), (by first | rfl | (simp; done) | (simp [*]; done)), (by first | rfl | (simp; done) | (simp [*]; done)), H', ⟨by have := HK1.out; have := HK2.out; have := HK3.out; omega⟩, ⟨by (with_reducible repeat (first | apply Kd.N_alloc | apply Kd.N_drewN | apply Kd.N_drew)); exact Kd.N_mono HO_6.out (fun _ hk => ⟨hk.1.1, ⟨hk.2, hk.1.2.2.1⟩⟩)⟩, ⟨by (with_reducible repeat (first | apply Kd.N_alloc | apply Kd.N_drewN | apply Kd.N_drew)); exact Kd.N_mono HO334.out (fun _ hk => ⟨hk.1, ⟨hk.2.1, ⟨hk.2.2.1, hk.2.2.2.1⟩⟩⟩)⟩, ⟨by (with_reducible repeat (first | apply Kd.N_alloc | apply Kd.N_drewN | apply Kd.N_drew)); exact Kd.N_mono HO_32.out (fun _ hk => ⟨hk.1.1, ⟨hk.2, hk.1.2.2.1⟩⟩)⟩, ⟨by (with_reducible repeat (first | refine blk_drewN ?_ _ | refine blk_drew ?_ | refine blk_alloc ?_ _)); exact BK323.out⟩, ⟨by repeat (first | (with_reducible first | exact HB.out | apply below_alloc | apply pw_below_drewN | apply below_drew1 | refine below_set ?_ GE323.out | refine below_set ?_ GE325.out) | exact HB.out)⟩⟩
                                  · rw [if_neg c31] at H
                                    exact absurd H (by simp)
                                · rw [if_neg c30] at H
                                  exact absurd H (by simp)
                            · rw [if_neg c24] at H
                              have c24b0 : (((rd_T58 x6_1 x34_3).f0.f0) == ((rd_T52 l0 x28_2).f0) && (((rd_T58 x6_1 x34_3).f0.f1) == ((rd_T52 l0 x28_2).f1))) = false := by simpa using c24
                              (try (have c24b1 : decide (((rd_T58 x6_1 x34_3).f0.f0) = ((rd_T52 l0 x28_2).f0) && (((rd_T58 x6_1 x34_3).f0.f1) == ((rd_T52 l0 x28_2).f1))) = false := by simpa using c24))
                              (try (have c24b2 : (((rd_T58 x6_1 x34_3).f0.f0) == ((rd_T52 l0 x28_2).f0) && (((rd_T58 x6_1 x34_3).f0.f1) == ((rd_T52 l0 x28_2).f1))) = false := by simpa using c24))
                              (try (have c24b3 : ¬ (((rd_T58 x6_1 x34_3).f0.f0) = ((rd_T52 l0 x28_2).f0) && (((rd_T58 x6_1 x34_3).f0.f1) == ((rd_T52 l0 x28_2).f1))) := by simpa using c24))
                              clear c24
                              have H' := aq H
                              clear H
                              have p324 : 0 ≤ (x34_3 : Int) := of_decide_eq_true (by first | (with_reducible assumption) | assumption)
                              have q324 : x34_3 < (x6_1.length : Int) := of_decide_eq_true (by first | (with_reducible assumption) | assumption)
                              obtain ⟨ad324, A324_2, c324_2, e324, hx324_0, hx324_1, hx324_2, hl324_2, hi324_2⟩ := at_T58 (Kd.N_reads' HO_32.out).2.2 x34_3 p324 q324
                              cases e324
                              obtain ⟨ce324, hce324, hMe324, hcc324⟩ := Kd.N_get HO_32.out z58 x34_3 p324 (by first | exact q324 | exact of_decide_eq_true (by first | (with_reducible assumption) | assumption) | (have e_ := (Kd.N_reads' HO_32.out).1; omega))
                              obtain ⟨ua324_2, uc324_2, rfl, ul324_2, ge324_2⟩ := k58_openF hMe324
                              have hv324_2 := hcc324 2 _ rfl
                              rw [add_field _ _ 2 (by omega)] at hv324_2
                              replace hv324_2 := Option.some.inj (hv324_2.symm.trans hx324_2)
                              injection hv324_2 with hva_ hvn_ hvc_
                              rw [hva_] at ge324_2
                              rw [hvc_] at ul324_2
                              have HL324_2 := aq (show Kd.V (Kd.int .u8) 5 _ w.heap.size _ _ ((rd_T58 x6_1 x34_3).f1) from Kd.V_mk ul324_2 ge324_2)
                              clear hva_ hvn_ hvc_ ge324_2 ul324_2
                              clear hcc324 hce324
                              have HR324_2 := aq hi324_2
                              have HC324_2 := aq hl324_2
                              clear hi324_2 hl324_2
                              replace p324 := eq_true p324
                              replace q324 := eq_true q324
                              go_wp2_with (first | ((with_reducible refine gate_dst (N := 14) rfl ?_); refine be 14 #[.int .u64 0, .int .u64 0, .slice none 0 0] 58 ?_; intro gb325 hg w42 hbox hb; have BK325 := aq (hbox); have GW325 := aq ((by rw [hg]; exact (below_size (bw HB)) : w.heap.size ≤ gb325)); have GE325 := aq ((by rw [hg]; exact (below_size (bw HB)) : w.heap.size ≤ gb325)); have NB323_325 := aq ((by rw [hg]; exact Nat.ne_of_lt (blk_lt (g := gb323) (o := .cells #[.int .u64 ((rd_T52 l0 x28_2).f0), .int .u64 ((rd_T52 l0 x28_2).f1)] 52 (0, 0)) (bq BK323)) : gb323 ≠ gb325)); have NB325_323 := aq ((by rw [hg]; exact Nat.ne_of_gt (blk_lt (g := gb323) (o := .cells #[.int .u64 ((rd_T52 l0 x28_2).f0), .int .u64 ((rd_T52 l0 x28_2).f1)] 52 (0, 0)) (bq BK323)) : gb325 ≠ gb323)); replace HO_6 := aq (Kd.N_below (Kd.N_elderB (nq HO_6) gb325 (Nat.le_of_eq hg.symm)) hb); replace HO_9 := aq (Kd.N_below (Kd.N_elderB (nq HO_9) gb325 (Nat.le_of_eq hg.symm)) hb); replace HO_32 := aq (Kd.N_below (Kd.N_elderB (nq HO_32) gb325 (Nat.le_of_eq hg.symm)) hb); replace HL324_2 := aq (Kd.V_below (Kd.V_elderB (vq HL324_2) gb325 (Nat.le_of_eq hg.symm)) hb); replace BK323 := aq (blk_below (bq BK323) hb); replace HR324_2 := aq True.intro; replace HB := aq (below_step (bw HB) hb); clear hb hbox hg; have hnb43 := NB325_323.out; have hnc43 := NB323_325.out; have hcz44_0 : w42.cell? ⟨gb325, 0, none⟩ = some (.int .u64 0) := bc BK325 0; have hcz44_1 : w42.cell? ⟨gb325, 1, none⟩ = some (.int .u64 0) := bc BK325 1; have hcz44_2 : w42.cell? ⟨gb325, 2, none⟩ = some (.slice none 0 0) := bc BK325 2; have hfz44_0 := bz BK325 0; have hfz44_1 := bz BK325 1; have hfz44_2 := bz BK325 2; have hcz45_0 : w42.cell? ⟨gb323, 0, none⟩ = some (.int .u64 ((rd_T52 l0 x28_2).f0)) := bc BK323 0; have hcz45_1 : w42.cell? ⟨gb323, 1, none⟩ = some (.int .u64 ((rd_T52 l0 x28_2).f1)) := bc BK323 1; have hfz45_0 := bz BK323 0; have hfz45_1 := bz BK323 1))
                              go_roundg k3
                              case measure => have := HK1.out; have := HK2.out; have := HK3.out; omega
                              case rel => exact ⟨(x9_3), (x12_3), (wrap64 (x34_3 + 1)), (by first | rfl | (simp; done) | (simp [*]; done)), (by first | rfl | (simp; done) | (simp [*]; done)), H', ⟨by have := HK1.out; have := HK2.out; have := HK3.out; omega⟩, ⟨by (with_reducible repeat (first | apply Kd.N_alloc | apply Kd.N_drewN | apply Kd.N_drew)); exact Kd.N_mono (Kd.N_far (p := ⟨gb325, 2, none⟩) (Kd.N_far (p := ⟨gb325, 1, none⟩) (Kd.N_far (p := ⟨gb325, 0, none⟩) (Kd.N_mono HO_6.out (fun k_ hk => (⟨hk, hk.2⟩ : _ ∧ k_ ≠ gb325))) (fun _ hk => hk.2) (.int .u64 ((rd_T58 x6_1 x34_3).f0.f0))) (fun _ hk => hk.2) (.int .u64 ((rd_T58 x6_1 x34_3).f0.f1))) (fun _ hk => hk.2) (.slice A324_2 ((rd_T58 x6_1 x34_3).f1).length c324_2)) (fun _ hk => ⟨hk.1.1.1, ⟨hk.1.1.2.1, hk.1.1.2.2⟩⟩)⟩, ⟨by (with_reducible repeat (first | apply Kd.N_alloc | apply Kd.N_drewN | apply Kd.N_drew)); exact Kd.N_mono (Kd.N_far (p := ⟨gb325, 2, none⟩) (Kd.N_far (p := ⟨gb325, 1, none⟩) (Kd.N_far (p := ⟨gb325, 0, none⟩) (Kd.N_mono HO_9.out (fun k_ hk => (⟨hk, hk.2⟩ : _ ∧ k_ ≠ gb325))) (fun _ hk => hk.2) (.int .u64 ((rd_T58 x6_1 x34_3).f0.f0))) (fun _ hk => hk.2) (.int .u64 ((rd_T58 x6_1 x34_3).f0.f1))) (fun _ hk => hk.2) (.slice A324_2 ((rd_T58 x6_1 x34_3).f1).length c324_2)) (fun _ hk => ⟨hk.1.1.1, ⟨hk.1.1.2.1, ⟨hk.1.1.2.2.1, hk.1.1.2.2.2⟩⟩⟩)⟩, ⟨by (with_reducible repeat (first | apply Kd.N_alloc | apply Kd.N_drewN | apply Kd.N_drew)); exact Kd.N_mono (Kd.N_far (p := ⟨gb325, 2, none⟩) (Kd.N_far (p := ⟨gb325, 1, none⟩) (Kd.N_far (p := ⟨gb325, 0, none⟩) (Kd.N_mono HO_32.out (fun k_ hk => (⟨hk, hk.2⟩ : _ ∧ k_ ≠ gb325))) (fun _ hk => hk.2) (.int .u64 ((rd_T58 x6_1 x34_3).f0.f0))) (fun _ hk => hk.2) (.int .u64 ((rd_T58 x6_1 x34_3).f0.f1))) (fun _ hk => hk.2) (.slice A324_2 ((rd_T58 x6_1 x34_3).f1).length c324_2)) (fun _ hk => ⟨hk.1.1.1, ⟨hk.1.1.2.1, hk.1.1.2.2⟩⟩)⟩, ⟨by (with_reducible repeat (first | refine blk_drewN ?_ _ | refine blk_drew ?_ | refine blk_alloc ?_ _)); refine blk_far ?_ NB323_325.out _; (with_reducible repeat (first | refine blk_drewN ?_ _ | refine blk_drew ?_ | refine blk_alloc ?_ _)); refine blk_far ?_ NB323_325.out _; (with_reducible repeat (first | refine blk_drewN ?_ _ | refine blk_drew ?_ | refine blk_alloc ?_ _)); refine blk_far ?_ NB323_325.out _; (with_reducible repeat (first | refine blk_drewN ?_ _ | refine blk_drew ?_ | refine blk_alloc ?_ _)); exact BK323.out⟩, ⟨by repeat (first | (with_reducible first | exact HB.out | apply below_alloc | apply pw_below_drewN | apply below_drew1 | refine below_set ?_ GE323.out | refine below_set ?_ GE325.out) | exact HB.out)⟩⟩
                          · rw [if_neg c23] at H
                            exact absurd H (by simp)
                        · rw [if_neg c22] at H
                          exact absurd H (by simp)
                      · rw [if_neg c21] at H
                        have c21b0 : decide (x34_3 < (x6_1.length : Int)) = false := decide_eq_false c21
                        clear c21
                        by_cases c46 : x12_3 = true
                        · subst c46
                          have H1 : (laws_growthHashes.l1 k3 x6_1 x9_3 l0 (l0.length : Int) (wrap64 (x28_2 + 1))) = some (r1, r2) := by rw [if_pos rfl] at H; exact H
                          clear H
                          have H := H1
                          clear H1
                          have H' := aq H
                          clear H
                          go_wp2
                          go_roundg k3
                          case measure => have := HK1.out; have := HK2.out; have := HK3.out; omega
                          case rel => exact ⟨(x9_3), (wrap64 (x28_2 + 1)), (by first | rfl | (simp; done) | (simp [*]; done)), H', ⟨by have := HK1.out; have := HK2.out; have := HK3.out; omega⟩, ⟨by (with_reducible repeat (first | apply Kd.N_alloc | apply Kd.N_drewN | apply Kd.N_drew)); exact Kd.N_mono HO_6.out (fun _ hk => ⟨hk.1, hk.2.1⟩)⟩, ⟨by (with_reducible repeat (first | apply Kd.N_alloc | apply Kd.N_drewN | apply Kd.N_drew)); exact Kd.N_mono HO_9.out (fun _ hk => ⟨hk.1, hk.2.1⟩)⟩, ⟨by repeat (first | (with_reducible first | exact HB.out | apply below_alloc | apply pw_below_drewN | apply below_drew1 | refine below_set ?_ GE323.out) | exact HB.out)⟩⟩
                        · replace c46 := Bool.eq_false_iff.mpr c46
                          subst c46
                          have H1 : (some (([] : List (List Int)), false)) = some (r1, r2) := by rw [if_neg (show ¬ (false = true) by decide)] at H; exact H
                          clear H
                          have H := H1
                          clear H1
                          simp only [Option.some.injEq, Prod.mk.injEq] at H
                          obtain ⟨rfl, rfl⟩ := H
                          go_wp2
                          go_ret2
                          exact ⟨_, by first | rfl | (simp [errW_none, errW_some] <;> rfl) | (simp [*, errW_none, errW_some] <;> rfl), by first | exact Kd.S_nil _ _ _ _ _ | exact Kd.N_nil _ _ _ _ _ | exact Kd.V_nil _ _ _ _ _ | exact Kd.Q_nil _ _ _ _ _ | exact Kd.R_nil _ _ _ _ _, by repeat (first | (with_reducible first | exact HB.out | apply below_alloc | apply pw_below_drewN | apply below_drew1 | refine below_set ?_ GE323.out) | exact HB.out)⟩
                · rw [if_neg c17] at H
                  exact absurd H (by simp)
              · rw [if_neg c16] at H
                exact absurd H (by simp)
            · rw [if_neg c15] at H
              have c15b0 : decide (x28_2 < (l0.length : Int)) = false := decide_eq_false c15
              clear c15
              simp only [Option.some.injEq, Prod.mk.injEq] at H
              obtain ⟨rfl, rfl⟩ := H
              go_wp2
              go_ret2
              exact ⟨_, by first | rfl | (simp [errW_none, errW_some] <;> rfl) | (simp [*, errW_none, errW_some] <;> rfl), by (with_reducible repeat (first | apply Kd.N_alloc | apply Kd.N_drewN | apply Kd.N_drew)); exact Kd.N_mono HO_9.out (fun _ hk => hk.1), by repeat (first | (with_reducible first | exact HB.out | apply below_alloc | apply pw_below_drewN | apply below_drew1) | exact HB.out)⟩
def impl_word.f (a0 : Int) (a1 : Int) : Option (List Int) := some (Hs.wordF a0 a1)
theorem impl_word.calls (a0 : Int) (a1 : Int) (r : List Int) (w : World) (h : impl_word.f a0 a1 = some r) :
    Calls Tryd.prog 85 #[.int .u64 a0, .int .i64 a1] w fun e w' => ∃ v0_ : Value, e = .returned (v0_) ∧ Kd.R (Kd.int .u8) 5 w' w.heap.size (fun _ => True) v0_ r ∧ Below w.heap.size w w' := by
  obtain rfl := Option.some.inj h
  exact Hs.word_calls a0 a1 w
def impl_mixed.f (a0 : Int) (l1 : List Int) : Option (Int) := if l1.length ≤ 140737488351232 then some (Hs.mixF a0 l1) else none
theorem impl_mixed.calls (a0 : Int) (A1 : Option Addr) (c1 : Nat) (l1 : List Int) (r : Int) (w : World) (hr1 : Kd.C (Kd.int .u8) w A1 l1.length l1) (hc1 : l1.length ≤ c1) (h : impl_mixed.f a0 l1 = some r) :
    Calls Tryd.prog 86 #[.int .u64 a0, .slice A1 l1.length c1] w fun e w' => e = .returned (.int .u64 r) ∧ Drawn0 w w' := by
  unfold impl_mixed.f at h
  split at h
  · obtain rfl := Option.some.inj h
    refine (Hs.mixed_calls a0 A1 c1 l1 w hr1 (by assumption)).mono ?_
    rintro e w' ⟨rfl, rfl⟩
    exact ⟨rfl, Drawn0.refl _⟩
  · cases h
def impl_toy_HashChildren.f (a0_0 : Int) (a0_1 : Int) (a0_2 : Int) (a0_3 : Int) (a0_4 : Int) (a0_5 : Int) (l1 : List Int) (l2 : List Int) : Option (List Int) := if a0_0 = 1 then ((impl_mixed.f a0_5 l1).bind fun t336 => ((impl_mixed.f t336 (([255] : List Int))).bind fun t340 => ((impl_mixed.f t340 l2).bind fun t341 => ((impl_word.f t341 a0_2).bind fun t342 => (some t342))))) else ((some (([1] : List Int) : List Int)).bind fun y345 => ((impl_word.f (IntKind.u64.wrap ((l1.length : Int))) 8).bind fun t348 => (if y345.length + t348.length < 140737488355328 then ((some (y345 ++ t348 : List Int)).bind fun y351 => (if y351.length + l1.length < 140737488355328 then ((some (y351 ++ l1 : List Int)).bind fun y354 => (if y354.length + l2.length < 140737488355328 then (some (y354 ++ l2)) else (none))) else (none))) else (none))))
def impl_toy_HashChildren.T2 : Bool × List (List Nat × List Nat) := (true, [([], []), ([0], [0]), ([1], [1]), ([], []), ([2, 3], [2, 3]), ([], []), ([4, 5, 4], [4, 5]), ([], []), ([6, 7, 6], [6, 7]), ([], []), ([9], [9]), ([10], [10]), ([8, 11, 8], [8, 11]), ([12, 12, 0, 1, 2, 3, 4, 5, 6, 7, 8, 9, 10, 11, 12], [12])])
def impl_toy_HashChildren.B2 : List Nat := [0, 1, 3, 0, 15, 0, 63, 0, 255, 0, 512, 1536, 4095, 8191]
theorem impl_toy_HashChildren.tab2 : rtab .any (opsOf Tryd.f53 2) = impl_toy_HashChildren.T2 := by kernel_rfl
theorem impl_toy_HashChildren.bits2 : waitsOk impl_toy_HashChildren.T2.2 impl_toy_HashChildren.B2 = true := by kernel_rfl
set_option maxHeartbeats 8000000 in
set_option maxRecDepth 100000 in
theorem impl_toy_HashChildren.calls (a0_0 : Int) (a0_1 : Int) (a0_2 : Int) (a0_3 : Int) (a0_4 : Int) (a0_5 : Int) (A1 : Option Addr) (c1 : Nat) (l1 : List Int) (A2 : Option Addr) (c2 : Nat) (l2 : List Int) (r : List Int) (w : World) (hr1 : Kd.C (Kd.int .u8) w A1 l1.length l1) (hc1 : l1.length ≤ c1) (hr2 : Kd.C (Kd.int .u8) w A2 l2.length l2) (hc2 : l2.length ≤ c2) (h : impl_toy_HashChildren.f a0_0 a0_1 a0_2 a0_3 a0_4 a0_5 l1 l2 = some r) :
    Calls Tryd.prog 53 #[.agg #[.int .i64 a0_0, .int .i64 a0_1, .int .i64 a0_2, .int .u64 a0_3, .int .u64 a0_4, .int .u64 a0_5], .slice A1 l1.length c1, .slice A2 l2.length c2] w fun e w' => ∃ v0_ : Value, e = .returned (v0_) ∧ Kd.R (Kd.int .u8) 5 w' w.heap.size (fun _ => True) v0_ r ∧ Below w.heap.size w w' := by
  have hu90 := Tryd.underlying90
  have HR1 := aq hr1
  have HC1 := aq hc1
  clear hr1 hc1
  have HR2 := aq hr2
  have HC2 := aq hc2
  clear hr2 hc2
  have HB := aq (Below.refl w.heap.size w)
  have H : (if a0_0 = 1 then ((impl_mixed.f a0_5 l1).bind fun t336 => ((impl_mixed.f t336 (([255] : List Int))).bind fun t340 => ((impl_mixed.f t340 l2).bind fun t341 => ((impl_word.f t341 a0_2).bind fun t342 => (some t342))))) else ((some (([1] : List Int) : List Int)).bind fun y345 => ((impl_word.f (IntKind.u64.wrap ((l1.length : Int))) 8).bind fun t348 => (if y345.length + t348.length < 140737488355328 then ((some (y345 ++ t348 : List Int)).bind fun y351 => (if y351.length + l1.length < 140737488355328 then ((some (y351 ++ l1 : List Int)).bind fun y354 => (if y354.length + l2.length < 140737488355328 then (some (y354 ++ l2)) else (none))) else (none))) else (none))))) = some r := h
  clear h
  by_cases c4 : a0_0 = 1
  · rw [if_pos c4] at H
    have c4b0 : (a0_0 == 1) = true := beq_iff_eq.mpr c4
    have c4b1 : (a0_0 != 1) = false := bne_eq_false_iff_eq.mpr c4
    clear c4
    replace H := Option.bind_eq_some_iff.mp H
    obtain ⟨t336, A50, H⟩ := H
    have A5 := aq A50
    clear A50
    obtain ⟨y337, hy337⟩ : ∃ y_ : List Int, y_ = (([255] : List Int)) := ⟨_, rfl⟩
    replace H : ((impl_mixed.f t336 y337).bind fun t340 => ((impl_mixed.f t340 l2).bind fun t341 => ((impl_word.f t341 a0_2).bind fun t342 => (some t342)))) = some r := by first | (rw [hy337]; with_reducible exact H) | (have H2_ := (Option.bind_some _ _).symm.trans H; rw [hy337]; with_reducible exact H2_) | (have H2_ := (Option.bind_some _ _).symm.trans H; with_reducible exact H2_) | with_reducible exact H | (rw [hy337]; exact H) | exact H
    have Ny337 := aq hy337
    clear hy337
    replace H := Option.bind_eq_some_iff.mp H
    obtain ⟨t340, A60, H⟩ := H
    have A6 := aq A60
    clear A60
    replace H := Option.bind_eq_some_iff.mp H
    obtain ⟨t341, A70, H⟩ := H
    have A7 := aq A70
    clear A70
    replace H := Option.bind_eq_some_iff.mp H
    obtain ⟨t342, A80, H⟩ := H
    have A8 := aq A80
    clear A80
    obtain rfl := Option.some.inj H
    go_enter Tryd.func53, Tryd.ntmps53
    try go_wp2_with (first | ((with_reducible refine gate_dst (N := 3) rfl ?_); refine be 3 #[.int .i64 a0_0, .int .i64 a0_1, .int .i64 a0_2, .int .u64 a0_3, .int .u64 a0_4, .int .u64 a0_5] 90 ?_; intro gb335 hg w9 hbox hb; have BK335 := aq (hbox); have GW335 := aq ((by rw [hg]; exact (below_size (bw HB)) : w.heap.size ≤ gb335)); have GE335 := aq ((by rw [hg]; exact (below_size (bw HB)) : w.heap.size ≤ gb335)); replace HB := aq (below_step (bw HB) hb); clear hb hbox hg; have hcz10_0 : w9.cell? ⟨gb335, 0, none⟩ = some (.int .i64 a0_0) := bc BK335 0; have hcz10_1 : w9.cell? ⟨gb335, 1, none⟩ = some (.int .i64 a0_1) := bc BK335 1; have hcz10_2 : w9.cell? ⟨gb335, 2, none⟩ = some (.int .i64 a0_2) := bc BK335 2; have hcz10_3 : w9.cell? ⟨gb335, 3, none⟩ = some (.int .u64 a0_3) := bc BK335 3; have hcz10_4 : w9.cell? ⟨gb335, 4, none⟩ = some (.int .u64 a0_4) := bc BK335 4; have hcz10_5 : w9.cell? ⟨gb335, 5, none⟩ = some (.int .u64 a0_5) := bc BK335 5; have hfz10_0 := bz BK335 0; have hfz10_1 := bz BK335 1; have hfz10_2 := bz BK335 2; have hfz10_3 := bz BK335 3; have hfz10_4 := bz BK335 4; have hfz10_5 := bz BK335 5))
    replace BK335 := aq (blk_drew BK335.out)
    replace HB := aq (below_drew1 HB.out)
    refine start_ (n := 14) (S := fun w' => w'.cell? ⟨gb335, 0, none⟩ = some (.int .i64 a0_0) ∧ w'.cell? ⟨gb335, 1, none⟩ = some (.int .i64 a0_1) ∧ w'.cell? ⟨gb335, 2, none⟩ = some (.int .i64 a0_2) ∧ w'.cell? ⟨gb335, 3, none⟩ = some (.int .u64 a0_3) ∧ w'.cell? ⟨gb335, 4, none⟩ = some (.int .u64 a0_4) ∧ w'.cell? ⟨gb335, 5, none⟩ = some (.int .u64 a0_5)) (ds := []) #[false, false, false, false, false, false, false, false, false, false, false, false, false, false] (by kernel_rfl) rfl rfl ⟨bc BK335 0, bc BK335 1, bc BK335 2, bc BK335 3, bc BK335 4, bc BK335 5⟩ (fun hHeld => ?_); refine with_tabW impl_toy_HashChildren.tab2 impl_toy_HashChildren.bits2 (fun HT_ HW_ => ?_)
    generalize w9.drew = w11 at BK335 HB hHeld ⊢
    refine pv 0 12 HT_ ?_
    refine pv 1 13 HT_ ?_
    refine pv 3 15 HT_ ?_
    refine pv 7 19 HT_ ?_
    refine pv 9 21 HT_ ?_
    refine pv 10 22 HT_ ?_
    refine tv 2 14 HT_ HW_ hHeld ?_
    refine tv 11 23 HT_ HW_ hHeld ?_
    refine join_ (σ := Value) 4 #[true, true, true, true, true, true, false, true, false, true, true, true, false, false] (fun s_ => [(16, .int .u64 t336), (17, s_)]) (fun s_ w' => (w'.cell? ⟨gb335, 0, none⟩ = some (.int .i64 a0_0) ∧ w'.cell? ⟨gb335, 1, none⟩ = some (.int .i64 a0_1) ∧ w'.cell? ⟨gb335, 2, none⟩ = some (.int .i64 a0_2) ∧ w'.cell? ⟨gb335, 3, none⟩ = some (.int .u64 a0_3) ∧ w'.cell? ⟨gb335, 4, none⟩ = some (.int .u64 a0_4) ∧ w'.cell? ⟨gb335, 5, none⟩ = some (.int .u64 a0_5)) ∧ (Kd.R (Kd.int .u8) 5 w' w.heap.size (fun _ => True) s_ y337) ∧ (w'.heap[gb335]? = some (.cells #[.int .i64 a0_0, .int .i64 a0_1, .int .i64 a0_2, .int .u64 a0_3, .int .u64 a0_4, .int .u64 a0_5] 90 (0, 0))) ∧ (Below w.heap.size w w')) ?_ ?_
    rotate_left
    · intro hCont
      refine two_ (i := 4) (j := 5) (Ni := some 16) (Nj := some 17) #[true, true, true, true, true, false, false, true, false, true, true, true, false, false] #[true, true, true, true, false, true, false, true, false, true, true, true, false, false] rfl rfl rfl rfl (two_of HT_.out (by kernel_rfl)) (by decide) (by decide) (fun K hK => ?_) (fun K hK => ?_)
      · skip
        refine gS Tryd.func86 #[.int .u64 a0_5, .slice A1 l1.length c1] ?_
        with_reducible refine (impl_mixed.calls a0_5 _ _ l1 t336 _ ?side1 ?side2 A5.out).mono ?_
        (case side1 => repeat (first | exact (Kd.C_below HR1.out HB.out) | (with_reducible refine Kd.C_alloc ?_ _) | (with_reducible refine Kd.C_drewN ?_ _) | (with_reducible refine Kd.C_drew ?_)))
        (case side2 => exact HC1.out)
        rintro e w' ⟨rfl, ⟨nd, rfl⟩⟩
        refine ⟨_, rfl, ?_⟩
        refine hK.out _ _ ⟨bc BK335 0, bc BK335 1, bc BK335 2, bc BK335 3, bc BK335 4, bc BK335 5⟩ (fun hHeld => ?_)
        clear hK K
        refine nv ?_
        refine ov1 5 17 HT_ fun K hK => ?_
        refine Kd.R_lit_step (Kd.int .u8) _ 5 ?hg (N := 17) ?hd (xs := ([255] : List Int)) (inner := [.int .u8 255]) (ok := fun _ => True) (okp := fun _ => True) ?hr ?hp (fun _ hk => hk) trivial (Below.refl _ _) (Nat.le_refl _) (by simp) ?_; (case hd => rfl); (case hg => rfl); (case hr => first | (go_simp; done) | (go_simp; rfl)); (case hp => exact (Reps.one (show Kd.M (Kd.int .u8) _ _ _ 255 [.int .u8 255] from rfl) (Reps.none _ _)))
        intro v338 w12 ho13 hb hg_ hnew_
        clear hg_ hnew_
        (first | rw [← Ny337.out] at ho13 | (simp only [Int.reduceToNat] at ho13; rw [← Ny337.out] at ho13))
        have HO339 := aq (Kd.R_lower ho13 (below_size (bw HB)))
        replace BK335 := aq (blk_below (bq BK335) hb)
        replace HB := aq (below_step (bw HB) hb)
        clear hb ho13
        refine hK.out _ _ ⟨bc BK335 0, bc BK335 1, bc BK335 2, bc BK335 3, bc BK335 4, bc BK335 5⟩ (fun hHeld => ?_)
        clear hK K
        refine nv ?_
        exact norm_ (by simp only [putAll, Act.put, List.setIfInBounds_toArray, List.set_cons_zero, List.set_cons_succ]) (hCont (v338) _ ⟨hHeld, (rq HO339), (bq BK335), (bw HB)⟩)
      · skip
        refine Kd.R_lit_step (Kd.int .u8) _ 5 ?hg (N := 17) ?hd (xs := ([255] : List Int)) (inner := [.int .u8 255]) (ok := fun _ => True) (okp := fun _ => True) ?hr ?hp (fun _ hk => hk) trivial (Below.refl _ _) (Nat.le_refl _) (by simp) ?_; (case hd => rfl); (case hg => rfl); (case hr => first | (go_simp; done) | (go_simp; rfl)); (case hp => exact (Reps.one (show Kd.M (Kd.int .u8) _ _ _ 255 [.int .u8 255] from rfl) (Reps.none _ _)))
        intro v338 w12 ho13 hb hg_ hnew_
        clear hg_ hnew_
        (first | rw [← Ny337.out] at ho13 | (simp only [Int.reduceToNat] at ho13; rw [← Ny337.out] at ho13))
        have HO339 := aq (Kd.R_lower ho13 (below_size (bw HB)))
        replace BK335 := aq (blk_below (bq BK335) hb)
        replace HB := aq (below_step (bw HB) hb)
        clear hb ho13
        refine hK.out _ _ ⟨bc BK335 0, bc BK335 1, bc BK335 2, bc BK335 3, bc BK335 4, bc BK335 5⟩ (fun hHeld => ?_)
        clear hK K
        refine nv ?_
        refine ov1 4 16 HT_ fun K hK => ?_
        refine gS Tryd.func86 #[.int .u64 a0_5, .slice A1 l1.length c1] ?_
        with_reducible refine (impl_mixed.calls a0_5 _ _ l1 t336 _ ?side1 ?side2 A5.out).mono ?_
        (case side1 => repeat (first | exact (Kd.C_below HR1.out HB.out) | (with_reducible refine Kd.C_alloc ?_ _) | (with_reducible refine Kd.C_drewN ?_ _) | (with_reducible refine Kd.C_drew ?_)))
        (case side2 => exact HC1.out)
        rintro e w' ⟨rfl, ⟨nd, rfl⟩⟩
        refine ⟨_, rfl, ?_⟩
        refine hK.out _ _ ⟨bc BK335 0, bc BK335 1, bc BK335 2, bc BK335 3, bc BK335 4, bc BK335 5⟩ (fun hHeld => ?_)
        clear hK K
        refine nv ?_
        exact norm_ (by simp only [putAll, Act.put, List.setIfInBounds_toArray, List.set_cons_zero, List.set_cons_succ]) (hCont (v338) _ ⟨hHeld, (rq HO339), (bq BK335), (bw HB)⟩)
    rintro v338 w14 ⟨hS_, h0_, h1_, h2_⟩
    have n0_ : Aside0 (Kd.R (Kd.int .u8) 5 w14 w.heap.size (fun _ => True) v338 y337) := ⟨h0_⟩
    have n1_ : Aside0 (w14.heap[gb335]? = some (.cells #[.int .i64 a0_0, .int .i64 a0_1, .int .i64 a0_2, .int .u64 a0_3, .int .u64 a0_4, .int .u64 a0_5] 90 (0, 0))) := ⟨h1_⟩
    have n2_ : Aside0 (Below w.heap.size w w14) := ⟨h2_⟩
    clear BK335
    clear HB
    clear h0_ h1_ h2_
    have HO339 := n0_
    have BK335 := n1_
    have HB := n2_
    clear n0_ n1_ n2_
    have hHeld : w14.cell? ⟨gb335, 0, none⟩ = some (.int .i64 a0_0) ∧ w14.cell? ⟨gb335, 1, none⟩ = some (.int .i64 a0_1) ∧ w14.cell? ⟨gb335, 2, none⟩ = some (.int .i64 a0_2) ∧ w14.cell? ⟨gb335, 3, none⟩ = some (.int .u64 a0_3) ∧ w14.cell? ⟨gb335, 4, none⟩ = some (.int .u64 a0_4) ∧ w14.cell? ⟨gb335, 5, none⟩ = some (.int .u64 a0_5) := hS_
    obtain ⟨Ao15, co15, eo15⟩ := Kd.R_slice HO339.out
    (first | subst eo15 | (injection eo15 with f1_ f2_ f3_; have f4_ := f1_.symm; have f5_ := f3_.symm; clear f1_ f2_ f3_; subst f4_; subst f5_))
    refine norm_ (a' := ?_) ?_ ?_
    rotate_left
    · simp only [putAll, Act.put, List.setIfInBounds_toArray, List.set_cons_zero, List.set_cons_succ]
      rfl
    refine ov1 6 18 HT_ fun K hK => ?_
    refine gS Tryd.func86 #[.int .u64 t336, .slice Ao15 y337.length co15] ?_
    with_reducible refine (impl_mixed.calls t336 _ _ y337 t340 _ ?side1 ?side2 A6.out).mono ?_
    (case side1 => repeat (first | exact (Kd.R_reads' HO339.out).2.2 | (with_reducible refine Kd.C_alloc ?_ _) | (with_reducible refine Kd.C_drewN ?_ _) | (with_reducible refine Kd.C_drew ?_)))
    (case side2 => exact (Kd.R_reads' HO339.out).2.1)
    rintro e w' ⟨rfl, ⟨nd, rfl⟩⟩
    refine ⟨_, rfl, ?_⟩
    refine hK.out _ _ ⟨bc BK335 0, bc BK335 1, bc BK335 2, bc BK335 3, bc BK335 4, bc BK335 5⟩ (fun hHeld => ?_)
    clear hK K
    refine nv ?_
    refine ov1 8 20 HT_ fun K hK => ?_
    refine gS Tryd.func86 #[.int .u64 t340, .slice A2 l2.length c2] ?_
    with_reducible refine (impl_mixed.calls t340 _ _ l2 t341 _ ?side1 ?side2 A7.out).mono ?_
    (case side1 => repeat (first | exact (Kd.C_below HR2.out (bw HB)) | (with_reducible refine Kd.C_alloc ?_ _) | (with_reducible refine Kd.C_drewN ?_ _) | (with_reducible refine Kd.C_drew ?_)))
    (case side2 => exact HC2.out)
    rintro e w' ⟨rfl, ⟨nd, rfl⟩⟩
    refine ⟨_, rfl, ?_⟩
    refine hK.out _ _ ⟨bc BK335 0, bc BK335 1, bc BK335 2, bc BK335 3, bc BK335 4, bc BK335 5⟩ (fun hHeld => ?_)
    clear hK K
    refine nv ?_
    refine ov1 12 24 HT_ fun K hK => ?_
    refine gS Tryd.func85 #[.int .u64 t341, .int .i64 a0_2] ?_
    with_reducible refine (impl_word.calls t341 a0_2 t342 _ A8.out).mono ?_
    rintro e w16 ⟨v343, rfl, ho0, hb⟩
    refine ⟨_, rfl, ?_⟩
    have HO344 := aq (Kd.R_lower (Kd.R_new' ho0 (Kd.R_lt (rq HO339))) (below_size (bw HB)))
    replace HO339 := aq (Kd.R_elder' (rq HO339) (Kd.R_base ho0) hb)
    replace BK335 := aq (blk_below (bq BK335) hb)
    replace HB := aq (below_step (bw HB) hb)
    (try clear hb)
    (try clear hk)
    (try clear ho0)
    refine hK.out _ _ ⟨bc BK335 0, bc BK335 1, bc BK335 2, bc BK335 3, bc BK335 4, bc BK335 5⟩ (fun hHeld => ?_)
    clear hK K
    refine nv ?_
    refine pv 13 6 HT_ ?_
    refine done_ (done_of HT_.out (by kernel_rfl)) ?_
    try go_wp2
    go_ret
    exact ⟨_, by first | rfl | (simp [errW_none, errW_some] <;> rfl) | (simp [*, errW_none, errW_some] <;> rfl), by (with_reducible repeat (first | apply Kd.R_alloc | apply Kd.R_drewN | apply Kd.R_drew)); exact Kd.R_mono HO344.out (fun _ hk => trivial), by repeat (first | (with_reducible first | exact HB.out | apply below_alloc | apply pw_below_drewN | apply below_drew1 | refine below_set ?_ GE335.out) | exact HB.out)⟩
  · rw [if_neg c4] at H
    have c4b0 : (a0_0 == 1) = false := beq_eq_false_iff_ne.mpr c4
    have c4b1 : (a0_0 != 1) = true := bne_iff_ne.mpr c4
    obtain ⟨y345, hy345⟩ : ∃ y_ : List Int, y_ = (([1] : List Int)) := ⟨_, rfl⟩
    replace H : ((impl_word.f (IntKind.u64.wrap ((l1.length : Int))) 8).bind fun t348 => (if y345.length + t348.length < 140737488355328 then ((some (y345 ++ t348 : List Int)).bind fun y351 => (if y351.length + l1.length < 140737488355328 then ((some (y351 ++ l1 : List Int)).bind fun y354 => (if y354.length + l2.length < 140737488355328 then (some (y354 ++ l2)) else (none))) else (none))) else (none))) = some r := by first | (rw [hy345]; with_reducible exact H) | (have H2_ := (Option.bind_some _ _).symm.trans H; rw [hy345]; with_reducible exact H2_) | (have H2_ := (Option.bind_some _ _).symm.trans H; with_reducible exact H2_) | with_reducible exact H | (rw [hy345]; exact H) | exact H
    have Ny345 := aq hy345
    clear hy345
    replace H := Option.bind_eq_some_iff.mp H
    obtain ⟨t348, A170, H⟩ := H
    have A17 := aq A170
    clear A170
    by_cases c18 : y345.length + t348.length < 140737488355328
    · rw [if_pos c18] at H
      have LMc18 := aq c18
      clear c18
      obtain ⟨y351, hy351⟩ : ∃ y_ : List Int, y_ = (y345 ++ t348) := ⟨_, rfl⟩
      replace H : (if y351.length + l1.length < 140737488355328 then ((some (y351 ++ l1 : List Int)).bind fun y354 => (if y354.length + l2.length < 140737488355328 then (some (y354 ++ l2)) else (none))) else (none)) = some r := by first | (rw [hy351]; with_reducible exact H) | (have H2_ := (Option.bind_some _ _).symm.trans H; rw [hy351]; with_reducible exact H2_) | (have H2_ := (Option.bind_some _ _).symm.trans H; with_reducible exact H2_) | with_reducible exact H | (rw [hy351]; exact H) | exact H
      have Ny351 := aq hy351
      clear hy351
      by_cases c19 : y351.length + l1.length < 140737488355328
      · rw [if_pos c19] at H
        have LMc19 := aq c19
        clear c19
        obtain ⟨y354, hy354⟩ : ∃ y_ : List Int, y_ = (y351 ++ l1) := ⟨_, rfl⟩
        replace H : (if y354.length + l2.length < 140737488355328 then (some (y354 ++ l2)) else (none)) = some r := by first | (rw [hy354]; with_reducible exact H) | (have H2_ := (Option.bind_some _ _).symm.trans H; rw [hy354]; with_reducible exact H2_) | (have H2_ := (Option.bind_some _ _).symm.trans H; with_reducible exact H2_) | with_reducible exact H | (rw [hy354]; exact H) | exact H
        have Ny354 := aq hy354
        clear hy354
        by_cases c20 : y354.length + l2.length < 140737488355328
        · rw [if_pos c20] at H
          have LMc20 := aq c20
          clear c20
          obtain ⟨y357, hy357⟩ : ∃ y_ : List Int, y_ = (y354 ++ l2) := ⟨_, rfl⟩
          replace H : (some y357) = some r := by first | (rw [hy357]; with_reducible exact H) | (have H2_ := (Option.bind_some _ _).symm.trans H; rw [hy357]; with_reducible exact H2_) | (have H2_ := (Option.bind_some _ _).symm.trans H; with_reducible exact H2_) | with_reducible exact H | (rw [hy357]; exact H) | exact H
          have Ny357 := aq hy357
          clear hy357
          obtain rfl := Option.some.inj H
          go_enter Tryd.func53, Tryd.ntmps53
          go_wp2_with (first | ((with_reducible refine gate_dst (N := 3) rfl ?_); refine be 3 #[.int .i64 a0_0, .int .i64 a0_1, .int .i64 a0_2, .int .u64 a0_3, .int .u64 a0_4, .int .u64 a0_5] 90 ?_; intro gb335 hg w21 hbox hb; have BK335 := aq (hbox); have GW335 := aq ((by rw [hg]; exact (below_size (bw HB)) : w.heap.size ≤ gb335)); have GE335 := aq ((by rw [hg]; exact (below_size (bw HB)) : w.heap.size ≤ gb335)); replace HB := aq (below_step (bw HB) hb); clear hb hbox hg; have hcz22_0 : w21.cell? ⟨gb335, 0, none⟩ = some (.int .i64 a0_0) := bc BK335 0; have hcz22_1 : w21.cell? ⟨gb335, 1, none⟩ = some (.int .i64 a0_1) := bc BK335 1; have hcz22_2 : w21.cell? ⟨gb335, 2, none⟩ = some (.int .i64 a0_2) := bc BK335 2; have hcz22_3 : w21.cell? ⟨gb335, 3, none⟩ = some (.int .u64 a0_3) := bc BK335 3; have hcz22_4 : w21.cell? ⟨gb335, 4, none⟩ = some (.int .u64 a0_4) := bc BK335 4; have hcz22_5 : w21.cell? ⟨gb335, 5, none⟩ = some (.int .u64 a0_5) := bc BK335 5; have hfz22_0 := bz BK335 0; have hfz22_1 := bz BK335 1; have hfz22_2 := bz BK335 2; have hfz22_3 := bz BK335 3; have hfz22_4 := bz BK335 4; have hfz22_5 := bz BK335 5) | ((with_reducible refine gate_dst (N := 25) rfl ?_); refine Kd.R_lit (Kd.int .u8) _ 5 ?hg (N := 25) ?hd (xs := ([1] : List Int)) (inner := [.int .u8 1]) (ok := fun _ => True) (okp := fun _ => True) ?hr ?hp (fun _ hk => hk) trivial (Below.refl _ _) (Nat.le_refl _) (by simp) ?_; (case hd => rfl); (case hg => rfl); (case hr => first | (go_simp; done) | (go_simp; rfl)); (case hp => exact (Reps.one (show Kd.M (Kd.int .u8) _ _ _ 1 [.int .u8 1] from rfl) (Reps.none _ _))); intro v346 w23 ho24 hb hg_ hnew_; clear hg_ hnew_; (first | rw [← Ny345.out] at ho24 | (simp only [Int.reduceToNat] at ho24; rw [← Ny345.out] at ho24)); have HO347 := aq (Kd.R_lower ho24 (below_size (bw HB))); replace BK335 := aq (blk_below (bq BK335) hb); replace HB := aq (below_step (bw HB) hb); clear hb ho24) | ((with_reducible refine gate_callee (f := 85) rfl ?_); refine gL 29 Tryd.func85 #[.int .u64 (IntKind.u64.wrap ((l1.length : Int))), .int .i64 8] ?_; (with_reducible refine (impl_word.calls (IntKind.u64.wrap ((l1.length : Int))) 8 t348 _ A17.out).mono ?_); rintro e w25 ⟨v349, rfl, ho0, hb⟩; refine ⟨_, rfl, ?_⟩; have HO350 := aq (Kd.R_lower (Kd.R_new' ho0 (Kd.R_lt (rq HO347))) (below_size (bw HB))); replace HO347 := aq (Kd.R_elder' (rq HO347) (Kd.R_base ho0) hb); replace BK335 := aq (blk_below (bq BK335) hb); replace HB := aq (below_step (bw HB) hb); (try clear hb); (try clear hk); (try clear ho0); obtain ⟨Ao27, co27, eo27⟩ := Kd.R_slice HO350.out; subst eo27) | ((with_reducible refine gate_builtin (b := .append) (xs := #[.tmp 25, .tmp 29]) rfl ?_); at_builtin; refine Kd.R_append_rows (Kd.int .u8) (w0 := w) w.heap.size rfl (.tmp 25) (.tmp 29) 28 5 (.int .u8 0) 1 rfl Tryd.underlying28 info5 rfl (by decide) (by omega) v346 y345 t348 _ _ _ (fun k_ => some k_ ≠ (.slice Ao27 t348.length co27 : Value).ownBlock) (fun _ => False) rfl rfl ?aO ?aR (fun _ _ h => h) (fun _ h => h.elim) ?aF ?aB ?aS ?aL ?_; (case aR => repeat (first | exact (Kd.R_reads' HO350.out).2.2 | (with_reducible refine Kd.C_alloc ?_ _) | (with_reducible refine Kd.C_drewN ?_ _) | (with_reducible refine Kd.C_drew ?_))); (case aB => exact (bw HB)); (case aF => exact (fun k_ hk => Kd.fresh' (Kd.R_lt (rq HO350)) k_ hk)); (case aO => exact (by (with_reducible repeat (first | apply Kd.R_alloc | apply Kd.R_drewN | apply Kd.R_drew)); exact Kd.R_mono HO347.out (fun _ hk => hk.2))); (case aS => exact (below_size (bw HB))); (case aL => have := LMc18.out; omega); intro v352 w26 ho hb hg hat; rw [← Ny351.out] at ho; have HO353 := aq (ho); replace BK335 := aq (blk_grown (g := gb335) (o := .cells #[.int .i64 a0_0, .int .i64 a0_1, .int .i64 a0_2, .int .u64 a0_3, .int .u64 a0_4, .int .u64 a0_5] 90 (0, 0)) (bq BK335) hg (Kd.R_ne HO347.out BK335.out (by decide))); replace HO350 := aq (Kd.R_after (ok := (fun _ => True)) (rq HO350) hg hat); replace HB := aq (hb); clear HO347; clear ho hb hg hat) | ((with_reducible refine gate_builtin (b := .append) (xs := #[.tmp 31, .tmp 32]) rfl ?_); at_builtin; refine Kd.R_append_rows (Kd.int .u8) (w0 := w) w.heap.size rfl (.tmp 31) (.tmp 32) 28 5 (.int .u8 0) 1 rfl Tryd.underlying28 info5 rfl (by decide) (by omega) v352 y351 l1 _ _ _ (fun k_ => some k_ ≠ (.slice Ao27 t348.length co27 : Value).ownBlock) (fun _ => False) rfl rfl ?aO ?aR (fun _ _ h => h) (fun _ h => h.elim) ?aF ?aB ?aS ?aL ?_; (case aR => repeat (first | exact (Kd.C_below HR1.out HB.out) | (with_reducible refine Kd.C_alloc ?_ _) | (with_reducible refine Kd.C_drewN ?_ _) | (with_reducible refine Kd.C_drew ?_))); (case aB => exact (bw HB)); (case aF => exact (fun k_ hk => Kd.fresh' (Kd.R_lt (rq HO350)) k_ hk)); (case aO => exact (rq HO353)); (case aS => exact (below_size (bw HB))); (case aL => have := LMc19.out; omega); intro v355 w28 ho hb hg hat; rw [← Ny354.out] at ho; have HO356 := aq (ho); replace BK335 := aq (blk_grown (g := gb335) (o := .cells #[.int .i64 a0_0, .int .i64 a0_1, .int .i64 a0_2, .int .u64 a0_3, .int .u64 a0_4, .int .u64 a0_5] 90 (0, 0)) (bq BK335) hg (Kd.R_ne HO353.out BK335.out (by decide))); replace HO350 := aq (Kd.R_after (ok := (fun _ => True)) (rq HO350) hg hat); replace HB := aq (hb); clear HO353; clear ho hb hg hat) | ((with_reducible refine gate_builtin (b := .append) (xs := #[.tmp 33, .tmp 34]) rfl ?_); at_builtin; refine Kd.R_append_rows (Kd.int .u8) (w0 := w) w.heap.size rfl (.tmp 33) (.tmp 34) 28 5 (.int .u8 0) 1 rfl Tryd.underlying28 info5 rfl (by decide) (by omega) v355 y354 l2 _ _ _ (fun k_ => some k_ ≠ (.slice Ao27 t348.length co27 : Value).ownBlock) (fun _ => False) rfl rfl ?aO ?aR (fun _ _ h => h) (fun _ h => h.elim) ?aF ?aB ?aS ?aL ?_; (case aR => repeat (first | exact (Kd.C_below HR2.out HB.out) | (with_reducible refine Kd.C_alloc ?_ _) | (with_reducible refine Kd.C_drewN ?_ _) | (with_reducible refine Kd.C_drew ?_))); (case aB => exact (bw HB)); (case aF => exact (fun k_ hk => Kd.fresh' (Kd.R_lt (rq HO350)) k_ hk)); (case aO => exact (rq HO356)); (case aS => exact (below_size (bw HB))); (case aL => have := LMc20.out; omega); intro v358 w29 ho hb hg hat; rw [← Ny357.out] at ho; have HO359 := aq (ho); replace BK335 := aq (blk_grown (g := gb335) (o := .cells #[.int .i64 a0_0, .int .i64 a0_1, .int .i64 a0_2, .int .u64 a0_3, .int .u64 a0_4, .int .u64 a0_5] 90 (0, 0)) (bq BK335) hg (Kd.R_ne HO356.out BK335.out (by decide))); replace HO350 := aq (Kd.R_after (ok := (fun _ => True)) (rq HO350) hg hat); replace HB := aq (hb); clear HO356; clear ho hb hg hat))
          go_ret
          exact ⟨_, by first | rfl | (simp [errW_none, errW_some] <;> rfl) | (simp [*, errW_none, errW_some] <;> rfl), by (with_reducible repeat (first | apply Kd.R_alloc | apply Kd.R_drewN | apply Kd.R_drew)); exact Kd.R_mono HO359.out (fun _ hk => trivial), by repeat (first | (with_reducible first | exact HB.out | apply below_alloc | apply pw_below_drewN | apply below_drew1 | refine below_set ?_ GE335.out) | exact HB.out)⟩
        · rw [if_neg c20] at H
          exact absurd H (by simp)
      · rw [if_neg c19] at H
        exact absurd H (by simp)
    · rw [if_neg c18] at H
      exact absurd H (by simp)
end Go.Proofs.YtfhcpniibiobgaaDoor.Qf
