-- Written by wip/tools/myprint.py for this seat (the kit's print with changes); Lean checks it.
import Derived.Test.YtfhcpniibiobgaaDoorQfx0
import Derived.Test.YtfhcpniibiobgaaDoorQfx6
import Derived.Test.YtfhcpniibiobgaaDoorQfx7
namespace Go.Proofs.YtfhcpniibiobgaaDoor.Qf
open Go.RowKit Go.Proofs.YtfhcpniibiobgaaDoorW.PrintWords Go.Proofs.YtfhcpniibiobgaaDoorW.PrintLast Go.Proofs.YtfhcpniibiobgaaDoorW.PrintMore
attribute [local go_sem] max2_int min2_int max_two min_two max_three min_three max_four min_four   -- for this text's walks alone
set_option linter.unusedVariables false
set_option linter.unusedSimpArgs false

/-! ### spec_Proof: function 35 -/
def spec_Proof.l0 : Nat → List (List Int) → List (List Int) → List (S55) → Int → Int → Int → Int → Int → Int → Int → Int → Option ((List (List Int)))
  | 0, _, _, _, _, _, _, _, _, _, _, _ => none
  | k + 1, x1, x7, x14, x15, x16, x327000, x327001, x327002, x327003, x327004, x327005 => if x16 < x15 then (if 0 ≤ x16 then (if x16 < (x14.length : Int) then ((spec_RootOf.f k x327000 x327001 x327002 x327003 x327004 x327005 x1 ((rd_T55 x14 x16).f0) ((rd_T55 x14 x16).f1)).bind fun t332 => (if x7.length < 5864062014805 then (spec_Proof.l0 k x1 (x7 ++ [t332]) x14 x15 (wrap64 (x16 + 1)) x327000 x327001 x327002 x327003 x327004 x327005) else (none))) else (none)) else (none)) else (some x7)
def spec_Proof.f (k : Nat) (a0_0 : Int) (a0_1 : Int) (a0_2 : Int) (a0_3 : Int) (a0_4 : Int) (a0_5 : Int) (l1 : List (List Int)) (a2 : Int) : Option ((List (List Int))) := (spec_ProofParts.f k a2 (IntKind.u64.wrap ((l1.length : Int)))).bind fun t327 => (spec_Proof.l0 k l1 ([] : List (List Int)) t327 (t327.length : Int) 0 a0_0 a0_1 a0_2 a0_3 a0_4 a0_5)
theorem spec_Proof.mono_l : ∀ k, (∀ y0 y1 y2 y3 y4 y5 y6 y7 y8 y9 y10, LeO (spec_Proof.l0 k y0 y1 y2 y3 y4 y5 y6 y7 y8 y9 y10) (spec_Proof.l0 (k + 1) y0 y1 y2 y3 y4 y5 y6 y7 y8 y9 y10))
  | 0 => fun _ _ _ _ _ _ _ _ _ _ _ r h => by simp [spec_Proof.l0] at h
  | k + 1 => by
    have ih0 := spec_Proof.mono_l k
    · intro y0 y1 y2 y3 y4 y5 y6 y7 y8 y9 y10
      unfold spec_Proof.l0
      repeat' first
      | (with_reducible exact ih0 _ _ _ _ _ _ _ _ _ _ _)
      | (with_reducible exact spec_ProofParts.mono _ _ _)
      | (with_reducible exact spec_RootOf.mono _ _ _ _ _ _ _ _ _ _)
      | (with_reducible exact LeO.refl _)
      | (with_reducible exact LeO.none _)
      | (with_reducible refine LeO.ite ?_ ?_)
      | (with_reducible refine LeO.bind ?_ (fun _ => ?_))
      | exact ih0 _ _ _ _ _ _ _ _ _ _ _
      | exact spec_ProofParts.mono _ _ _
      | exact spec_RootOf.mono _ _ _ _ _ _ _ _ _ _
      | exact LeO.none _
      | refine LeO.ite ?_ ?_
      | refine LeO.bind ?_ (fun _ => ?_)
theorem spec_Proof.mono : ∀ a0 a1 a2 a3 a4 a5 a6 a7 k, LeO (spec_Proof.f k a0 a1 a2 a3 a4 a5 a6 a7) (spec_Proof.f (k + 1) a0 a1 a2 a3 a4 a5 a6 a7) := by
  intro a0 a1 a2 a3 a4 a5 a6 a7 k
  have ih0 := spec_Proof.mono_l k
  unfold spec_Proof.f
  repeat' first
      | (with_reducible exact ih0 _ _ _ _ _ _ _ _ _ _ _)
      | (with_reducible exact spec_ProofParts.mono _ _ _)
      | (with_reducible exact spec_RootOf.mono _ _ _ _ _ _ _ _ _ _)
      | (with_reducible exact LeO.refl _)
      | (with_reducible exact LeO.none _)
      | (with_reducible refine LeO.ite ?_ ?_)
      | (with_reducible refine LeO.bind ?_ (fun _ => ?_))
      | exact ih0 _ _ _ _ _ _ _ _ _ _ _
      | exact spec_ProofParts.mono _ _ _
      | exact spec_RootOf.mono _ _ _ _ _ _ _ _ _ _
      | exact LeO.none _
      | refine LeO.ite ?_ ?_
      | refine LeO.bind ?_ (fun _ => ?_)
set_option maxHeartbeats 8000000 in
set_option maxRecDepth 100000 in
theorem spec_Proof.calls (k : Nat) (a0_0 : Int) (a0_1 : Int) (a0_2 : Int) (a0_3 : Int) (a0_4 : Int) (a0_5 : Int) (P1_ : Nat → Prop) (A1 : Option Addr) (c1 : Nat) (l1 : List (List Int)) (a2 : Int) (r : List (List Int)) (w : World) (hs1 : Kd.V (Kd.slice 5 (Kd.int .u8)) 28 w w.heap.size (fun k_ => P1_ k_) (.slice A1 l1.length c1) l1) (h : spec_Proof.f k a0_0 a0_1 a0_2 a0_3 a0_4 a0_5 l1 a2 = some r) :
    Calls Tryd.prog 35 #[.agg #[.int .i64 a0_0, .int .i64 a0_1, .int .i64 a0_2, .int .u64 a0_3, .int .u64 a0_4, .int .u64 a0_5], .slice A1 l1.length c1, .int .u64 a2] w fun e w' => ∃ v0_ : Value, e = .returned (v0_) ∧ Kd.N (Kd.slice 5 (Kd.int .u8)) 28 w' w.heap.size (fun k_ => (P1_ k_ ∨ w.heap.size ≤ k_)) v0_ r ∧ Below w.heap.size w w' := by
  have hu24 := Tryd.underlying24
  have hu55 := Tryd.underlying55
  have HO1 := Aside0.mk (show Kd.V (Kd.slice 5 (Kd.int .u8)) 28 w w.heap.size (fun k_ => (P1_ k_ ∨ w.heap.size ≤ k_)) (.slice A1 l1.length c1) l1 from Kd.V_mono hs1 (fun k_ hk => .inl hk))
  have HB := Aside0.mk (Below.refl w.heap.size w)
  have H : ((spec_ProofParts.f k a2 (IntKind.u64.wrap ((l1.length : Int)))).bind fun t327 => (spec_Proof.l0 k l1 ([] : List (List Int)) t327 (t327.length : Int) 0 a0_0 a0_1 a0_2 a0_3 a0_4 a0_5)) = some r := h
  clear h
  replace H := Option.bind_eq_some_iff.mp H
  obtain ⟨t327, A40, H⟩ := H
  replace H : (spec_Proof.l0 k l1 ([] : List (List Int)) t327 (t327.length : Int) 0 a0_0 a0_1 a0_2 a0_3 a0_4 a0_5) = some r := H
  have A4 := Aside0.mk A40
  clear A40
  have H' := Aside0.mk H
  clear H
  go_enter Tryd.func35, Tryd.ntmps35
  go_wp2_with (first | ((with_reducible refine gate_dst (N := 3) rfl ?_); refine box_event ?hg (N := 3) ?hd (cs := #[.int .i64 a0_0, .int .i64 a0_1, .int .i64 a0_2, .int .u64 a0_3, .int .u64 a0_4, .int .u64 a0_5]) (t := 24) ?hr ?_; (case hd => rfl); (case hg => rfl); (case hr => first | (go_simp; done) | (go_simp; rfl)); intro gb326 hg w5 hbox hb; have n0_ := Aside0.mk (Kd.V_below (Kd.V_elderB (by (with_reducible repeat (first | apply Kd.V_alloc | apply Kd.V_drewN | apply Kd.V_drew)); exact HO1.out) gb326 (Nat.le_of_eq hg.symm)) hb); have n1_ := Aside0.mk (below_step (by repeat (first | (with_reducible first | exact HB.out | apply below_alloc | apply pw_below_drewN | apply below_drew1) | exact HB.out)) hb); have n2_ := Aside0.mk (hbox); have n3_ := Aside0.mk ((by rw [hg]; exact (below_size (by repeat (first | (with_reducible first | exact HB.out | apply below_alloc | apply pw_below_drewN | apply below_drew1) | exact HB.out))) : w.heap.size ≤ gb326)); have n4_ := Aside0.mk ((by rw [hg]; exact (below_size (by repeat (first | (with_reducible first | exact HB.out | apply below_alloc | apply pw_below_drewN | apply below_drew1) | exact HB.out))) : w.heap.size ≤ gb326)); clear HO1; clear HB; have HO1 := n0_; have HB := n1_; have BK326 := n2_; have GW326 := n3_; have GE326 := n4_; clear n0_ n1_ n2_ n3_ n4_; clear hb hbox hg) | ((with_reducible refine gate_callee (f := 61) rfl ?_); refine goesL_ (some 14) rfl rfl Tryd.func61 (by kernel_rfl) rfl #[.int .u64 a2, .int .u64 (IntKind.u64.wrap ((l1.length : Int)))] rfl (by (try simp only [List.map_toArray, List.map_cons, List.map_nil]); first | done | rfl | (simp only [List.length_drop, List.length_take]; rfl)) ?_; (with_reducible refine (spec_ProofParts.calls k a2 (IntKind.u64.wrap ((l1.length : Int))) t327 _ A4.out).mono ?_); rintro e w6 ⟨v328, rfl, ho0, hb⟩; refine ⟨_, rfl, ?_⟩; have n0_ := Aside0.mk (Kd.V_elder' (by (with_reducible repeat (first | apply Kd.V_alloc | apply Kd.V_drewN | apply Kd.V_drew)); exact HO1.out) (Kd.R_base ho0) hb); have n1_ := Aside0.mk (Kd.R_lower (Kd.R_newM (M := fun k_ => (w.heap.size ≤ k_)) ho0 (below_size (by repeat (first | (with_reducible first | exact HB.out | apply below_alloc | apply pw_below_drewN | apply below_drew1 | refine below_set ?_ GE326.out) | exact HB.out))) (fun k_ h_ => h_)) (below_size (by repeat (first | (with_reducible first | exact HB.out | apply below_alloc | apply pw_below_drewN | apply below_drew1 | refine below_set ?_ GE326.out) | exact HB.out)))); have n2_ := Aside0.mk (blk_below (g := gb326) (o := .cells #[.int .i64 a0_0, .int .i64 a0_1, .int .i64 a0_2, .int .u64 a0_3, .int .u64 a0_4, .int .u64 a0_5] 24 (0, 0)) (by (with_reducible repeat (first | refine blk_drewN ?_ _ | refine blk_drew ?_ | refine blk_alloc ?_ _)); exact BK326.out) hb); have n3_ := Aside0.mk (below_step (by repeat (first | (with_reducible first | exact HB.out | apply below_alloc | apply pw_below_drewN | apply below_drew1 | refine below_set ?_ GE326.out) | exact HB.out)) hb); clear HO1; clear BK326; clear HB; have HO1 := n0_; have HO329 := n1_; have BK326 := n2_; have HB := n3_; clear n0_ n1_ n2_ n3_; (try clear hb); (try clear hb2); (try clear hk); (try clear hi); (try clear ho0); obtain ⟨Ao7, co7, eo7⟩ := Kd.R_slice HO329.out; subst eo7))
  (try simp only [Act.put, List.setIfInBounds_toArray, List.set_cons_zero, List.set_cons_succ])
  go_loopg [7, 16] k (fun kq v7 v16 w' => ∃ (x7_1 : List (List Int)) (x16_1 : Int), v16 = .int .i64 x16_1 ∧ Aside0 (spec_Proof.l0 kq l1 x7_1 t327 (t327.length : Int) x16_1 a0_0 a0_1 a0_2 a0_3 a0_4 a0_5 = some r) ∧ Aside0 (kq ≤ k) ∧ Aside0 (Kd.V (Kd.slice 5 (Kd.int .u8)) 28 w' w.heap.size (fun k_ => (P1_ k_ ∨ w.heap.size ≤ k_) ∧ some k_ ≠ (v7 : Value).ownBlock ∧ some k_ ≠ ((.slice Ao7 t327.length co7) : Value).ownBlock ∧ k_ ≠ gb326) (.slice A1 l1.length c1) l1) ∧ Aside0 (Kd.N (Kd.slice 5 (Kd.int .u8)) 28 w' w.heap.size (fun k_ => (P1_ k_ ∨ w.heap.size ≤ k_) ∧ some k_ ≠ ((.slice Ao7 t327.length co7) : Value).ownBlock ∧ k_ ≠ gb326) v7 x7_1) ∧ Aside0 (Kd.R k55 55 w' w.heap.size (fun k_ => (w.heap.size ≤ k_)) (.slice Ao7 t327.length co7) t327) ∧ Aside0 (w'.heap[gb326]? = some (.cells #[.int .i64 a0_0, .int .i64 a0_1, .int .i64 a0_2, .int .u64 a0_3, .int .u64 a0_4, .int .u64 a0_5] 24 (0, 0))) ∧ Aside0 (Below w.heap.size w w'))
  case atStart => exact ⟨(([] : List (List Int))), (0), (by first | rfl | (simp; done) | (simp [*]; done)), H', ⟨Nat.le_refl _⟩, ⟨by (with_reducible repeat (first | apply Kd.V_alloc | apply Kd.V_drewN | apply Kd.V_drew)); exact Kd.V_mono HO1.out (fun _ hk => ⟨hk.1.1, ⟨(by simp [Value.ownBlock]), ⟨hk.2, hk.1.2⟩⟩⟩)⟩, ⟨by first | exact Kd.S_nil _ _ _ _ _ | exact Kd.N_nil _ _ _ _ _ | exact Kd.V_nil _ _ _ _ _ | exact Kd.Q_nil _ _ _ _ _ | exact Kd.R_nil _ _ _ _ _⟩, ⟨by (with_reducible repeat (first | apply Kd.R_alloc | apply Kd.R_drewN | apply Kd.R_drew)); exact Kd.R_mono HO329.out (fun _ hk => hk.1)⟩, ⟨by (with_reducible repeat (first | refine blk_drewN ?_ _ | refine blk_drew ?_ | refine blk_alloc ?_ _)); exact BK326.out⟩, ⟨by repeat (first | (with_reducible first | exact HB.out | apply below_alloc | apply pw_below_drewN | apply below_drew1 | refine below_set ?_ GE326.out) | exact HB.out)⟩⟩
  case round =>
    clear H'
    try clear c1
    try clear p2
    try clear c3
    try clear c6
    obtain ⟨x7_1, x16_1, rfl, HA, HK1, HO_1, HO_7, HO_14, BK326, HB⟩ := hrel
    cases gk with
    | zero => exact absurd HA.out (by simp [spec_Proof.l0])
    | succ k1 =>
      have H := HA.out
      clear HA
      simp only [spec_Proof.l0] at H
      by_cases c8 : x16_1 < (t327.length : Int)
      · rw [if_pos c8] at H
        have c8b0 : decide (x16_1 < (t327.length : Int)) = true := decide_eq_true c8
        clear c8
        by_cases c9 : 0 ≤ x16_1
        · rw [if_pos c9] at H
          have c9b0 : decide (0 ≤ x16_1) = true := decide_eq_true c9
          clear c9
          by_cases c10 : x16_1 < (t327.length : Int)
          · rw [if_pos c10] at H
            have c10b0 : decide (x16_1 < (t327.length : Int)) = true := decide_eq_true c10
            clear c10
            replace H := Option.bind_eq_some_iff.mp H
            obtain ⟨t332, A110, H⟩ := H
            replace H : (if x7_1.length < 5864062014805 then (spec_Proof.l0 k1 l1 (x7_1 ++ [t332]) t327 (t327.length : Int) (wrap64 (x16_1 + 1)) a0_0 a0_1 a0_2 a0_3 a0_4 a0_5) else (none)) = some r := H
            have A11 := Aside0.mk A110
            clear A110
            by_cases c12 : x7_1.length < 5864062014805
            · rw [if_pos c12] at H
              have LMc12 := Aside0.mk c12
              clear c12
              obtain ⟨y335, hy335⟩ : ∃ y_ : List (List Int), y_ = (x7_1 ++ [t332]) := ⟨_, rfl⟩
              replace H : (spec_Proof.l0 k1 l1 y335 t327 (t327.length : Int) (wrap64 (x16_1 + 1)) a0_0 a0_1 a0_2 a0_3 a0_4 a0_5) = some r := by first | (rw [hy335]; with_reducible exact H) | (have H2_ := (Option.bind_some _ _).symm.trans H; rw [hy335]; with_reducible exact H2_) | (have H2_ := (Option.bind_some _ _).symm.trans H; with_reducible exact H2_) | with_reducible exact H | (rw [hy335]; exact H) | exact H
              have Ny335 := Aside0.mk hy335
              clear hy335
              have H' := Aside0.mk H
              clear H
              have p330 : 0 ≤ (x16_1 : Int) := of_decide_eq_true (by first | (with_reducible assumption) | assumption)
              have q330 : x16_1 < (t327.length : Int) := of_decide_eq_true (by first | (with_reducible assumption) | assumption)
              obtain ⟨ad330, e330, hx330_0, hx330_1⟩ := at_T55 (Kd.R_reads' HO_14.out).2.2 x16_1 p330 q330
              cases e330
              replace p330 := eq_true p330
              replace q330 := eq_true q330
              go_wp2_with (first | ((with_reducible refine gate_dst (N := 9) rfl ?_); refine box_event ?hg (N := 9) ?hd (cs := #[.int .u64 0, .int .u64 0]) (t := 55) ?hr ?_; (case hd => rfl); (case hg => rfl); (case hr => first | (go_simp; done) | (go_simp; rfl)); intro gb331 hg w13 hbox hb; have n0_ := Aside0.mk (Kd.V_below (Kd.V_elderB (by (with_reducible repeat (first | apply Kd.V_alloc | apply Kd.V_drewN | apply Kd.V_drew)); exact HO_1.out) gb331 (Nat.le_of_eq hg.symm)) hb); have n1_ := Aside0.mk (Kd.N_below (Kd.N_elderB (by (with_reducible repeat (first | apply Kd.N_alloc | apply Kd.N_drewN | apply Kd.N_drew)); exact HO_7.out) gb331 (Nat.le_of_eq hg.symm)) hb); have n2_ := Aside0.mk (Kd.R_below (Kd.R_elderB (by (with_reducible repeat (first | apply Kd.R_alloc | apply Kd.R_drewN | apply Kd.R_drew)); exact HO_14.out) gb331 (Nat.le_of_eq hg.symm)) hb); have n3_ := Aside0.mk (blk_below (g := gb326) (o := .cells #[.int .i64 a0_0, .int .i64 a0_1, .int .i64 a0_2, .int .u64 a0_3, .int .u64 a0_4, .int .u64 a0_5] 24 (0, 0)) (by (with_reducible repeat (first | refine blk_drewN ?_ _ | refine blk_drew ?_ | refine blk_alloc ?_ _)); exact BK326.out) hb); have n4_ := Aside0.mk (below_step (by repeat (first | (with_reducible first | exact HB.out | apply below_alloc | apply pw_below_drewN | apply below_drew1 | refine below_set ?_ GE326.out) | exact HB.out)) hb); have n5_ := Aside0.mk (hbox); have n6_ := Aside0.mk ((by rw [hg]; exact (below_size (by repeat (first | (with_reducible first | exact HB.out | apply below_alloc | apply pw_below_drewN | apply below_drew1 | refine below_set ?_ GE326.out) | exact HB.out))) : w.heap.size ≤ gb331)); have n7_ := Aside0.mk ((by rw [hg]; exact (below_size (by repeat (first | (with_reducible first | exact HB.out | apply below_alloc | apply pw_below_drewN | apply below_drew1 | refine below_set ?_ GE326.out) | exact HB.out))) : w.heap.size ≤ gb331)); have n8_ := Aside0.mk ((by rw [hg]; exact Nat.ne_of_lt (blk_lt (g := gb326) (o := .cells #[.int .i64 a0_0, .int .i64 a0_1, .int .i64 a0_2, .int .u64 a0_3, .int .u64 a0_4, .int .u64 a0_5] 24 (0, 0)) (by (with_reducible repeat (first | refine blk_drewN ?_ _ | refine blk_drew ?_ | refine blk_alloc ?_ _)); exact BK326.out)) : gb326 ≠ gb331)); have n9_ := Aside0.mk ((by rw [hg]; exact Nat.ne_of_gt (blk_lt (g := gb326) (o := .cells #[.int .i64 a0_0, .int .i64 a0_1, .int .i64 a0_2, .int .u64 a0_3, .int .u64 a0_4, .int .u64 a0_5] 24 (0, 0)) (by (with_reducible repeat (first | refine blk_drewN ?_ _ | refine blk_drew ?_ | refine blk_alloc ?_ _)); exact BK326.out)) : gb331 ≠ gb326)); clear HO_1; clear HO_7; clear HO_14; clear BK326; clear HB; have HO_1 := n0_; have HO_7 := n1_; have HO_14 := n2_; have BK326 := n3_; have HB := n4_; have BK331 := n5_; have GW331 := n6_; have GE331 := n7_; have NB326_331 := n8_; have NB331_326 := n9_; clear n0_ n1_ n2_ n3_ n4_ n5_ n6_ n7_ n8_ n9_; clear hb hbox hg; have hnb14 := NB331_326.out; have hnc14 := NB326_331.out; have hcz15_0 : w13.cell? ⟨gb331, 0, none⟩ = some (.int .u64 0) := (blk_cell BK331.out 0).trans rfl; have hcz15_1 : w13.cell? ⟨gb331, 1, none⟩ = some (.int .u64 0) := (blk_cell BK331.out 1).trans rfl; have hfz15_0 := blk_frozen BK331.out 0; have hfz15_1 := blk_frozen BK331.out 1) | ((with_reducible refine gate_store (t := 55) (p := 9) rfl ?_); refine store_event (t := 55) (p := 9) (v := ?vo_w16) (w1 := ((w13.setCell ⟨gb331, 0, none⟩ (.int .u64 ((rd_T55 t327 x16_1).f0))).setCell ⟨gb331, 1, none⟩ (.int .u64 ((rd_T55 t327 x16_1).f1)))) ?hg ?ho ?hn ?hr ?_; (case ho => rfl); (case hg => rfl); (case hn => rfl); (case hr => first | (go_simp; done) | (go_simp; rfl)); intro w16 hw; have n0_ : Aside0 (Kd.V (Kd.slice 5 (Kd.int .u8)) 28 w16 w.heap.size (fun k_ => (P1_ k_ ∨ w.heap.size ≤ k_) ∧ some k_ ≠ (u7 : Value).ownBlock ∧ some k_ ≠ (.slice (some ad330) t327.length co7 : Value).ownBlock ∧ k_ ≠ gb326 ∧ k_ ≠ gb331) (.slice A1 l1.length c1) l1) := ⟨(by rw [hw]; exact (by (with_reducible repeat (first | apply Kd.V_alloc | apply Kd.V_drewN | apply Kd.V_drew)); exact Kd.V_mono (Kd.V_far (p := ⟨gb331, 1, none⟩) (Kd.V_far (p := ⟨gb331, 0, none⟩) (Kd.V_mono HO_1.out (fun k_ hk => (⟨hk, hk.2⟩ : _ ∧ k_ ≠ gb331))) (fun _ hk => hk.2) (.int .u64 ((rd_T55 t327 x16_1).f0))) (fun _ hk => hk.2) (.int .u64 ((rd_T55 t327 x16_1).f1))) (fun _ hk => ⟨hk.1.1.1, ⟨hk.1.1.2.1, ⟨hk.1.1.2.2.1, ⟨hk.1.1.2.2.2, hk.1.2⟩⟩⟩⟩)))⟩; have n1_ : Aside0 (Kd.N (Kd.slice 5 (Kd.int .u8)) 28 w16 w.heap.size (fun k_ => (P1_ k_ ∨ w.heap.size ≤ k_) ∧ some k_ ≠ (.slice (some ad330) t327.length co7 : Value).ownBlock ∧ k_ ≠ gb326 ∧ k_ ≠ gb331) u7 x7_1) := ⟨(by rw [hw]; exact (by (with_reducible repeat (first | apply Kd.N_alloc | apply Kd.N_drewN | apply Kd.N_drew)); exact Kd.N_mono (Kd.N_far (p := ⟨gb331, 1, none⟩) (Kd.N_far (p := ⟨gb331, 0, none⟩) (Kd.N_mono HO_7.out (fun k_ hk => (⟨hk, hk.2⟩ : _ ∧ k_ ≠ gb331))) (fun _ hk => hk.2) (.int .u64 ((rd_T55 t327 x16_1).f0))) (fun _ hk => hk.2) (.int .u64 ((rd_T55 t327 x16_1).f1))) (fun _ hk => ⟨hk.1.1.1, ⟨hk.1.1.2.1, ⟨hk.1.1.2.2, hk.1.2⟩⟩⟩)))⟩; have n2_ : Aside0 (Kd.R k55 55 w16 w.heap.size (fun k_ => (w.heap.size ≤ k_) ∧ k_ ≠ gb331) (.slice (some ad330) t327.length co7) t327) := ⟨(by rw [hw]; exact (by (with_reducible repeat (first | apply Kd.R_alloc | apply Kd.R_drewN | apply Kd.R_drew)); exact Kd.R_mono (Kd.R_far (p := ⟨gb331, 1, none⟩) (Kd.R_far (p := ⟨gb331, 0, none⟩) (Kd.R_mono HO_14.out (fun k_ hk => (⟨hk, hk.2⟩ : _ ∧ k_ ≠ gb331))) (fun _ hk => hk.2) (.int .u64 ((rd_T55 t327 x16_1).f0))) (fun _ hk => hk.2) (.int .u64 ((rd_T55 t327 x16_1).f1))) (fun _ hk => ⟨hk.1.1, hk.1.2⟩)))⟩; have n3_ : Aside0 (w16.heap[gb326]? = some (.cells #[.int .i64 a0_0, .int .i64 a0_1, .int .i64 a0_2, .int .u64 a0_3, .int .u64 a0_4, .int .u64 a0_5] 24 (0, 0))) := ⟨(by rw [hw]; exact (by (with_reducible repeat (first | refine blk_drewN ?_ _ | refine blk_drew ?_ | refine blk_alloc ?_ _)); refine blk_far ?_ NB326_331.out _; (with_reducible repeat (first | refine blk_drewN ?_ _ | refine blk_drew ?_ | refine blk_alloc ?_ _)); refine blk_far ?_ NB326_331.out _; (with_reducible repeat (first | refine blk_drewN ?_ _ | refine blk_drew ?_ | refine blk_alloc ?_ _)); exact BK326.out))⟩; have n4_ : Aside0 (w16.heap[gb331]? = some (.cells #[.int .u64 ((rd_T55 t327 x16_1).f0), .int .u64 ((rd_T55 t327 x16_1).f1)] 55 (0, 0))) := ⟨(by rw [hw]; exact (by (with_reducible repeat (first | refine blk_drewN ?_ _ | refine blk_drew ?_ | refine blk_alloc ?_ _)); refine blk_put (cs := #[.int .u64 ((rd_T55 t327 x16_1).f0), .int .u64 0]) ?_ 1 _ rfl; (with_reducible repeat (first | refine blk_drewN ?_ _ | refine blk_drew ?_ | refine blk_alloc ?_ _)); refine blk_put (cs := #[.int .u64 0, .int .u64 0]) ?_ 0 _ rfl; (with_reducible repeat (first | refine blk_drewN ?_ _ | refine blk_drew ?_ | refine blk_alloc ?_ _)); exact BK331.out))⟩; have n5_ : Aside0 (Below w.heap.size w w16) := ⟨(by rw [hw]; exact (by repeat (first | (with_reducible first | exact HB.out | apply below_alloc | apply pw_below_drewN | apply below_drew1 | refine below_set ?_ GE326.out | refine below_set ?_ GE331.out) | exact HB.out)))⟩; clear hw; clear HO_1; clear HO_7; clear HO_14; clear BK326; clear BK331; clear HB; have HO_1 := n0_; have HO_7 := n1_; have HO_14 := n2_; have BK326 := n3_; have BK331 := n4_; have HB := n5_; clear n0_ n1_ n2_ n3_ n4_ n5_; have hcz17_0 : w16.cell? ⟨gb326, 0, none⟩ = some (.int .i64 a0_0) := (blk_cell BK326.out 0).trans rfl; have hcz17_1 : w16.cell? ⟨gb326, 1, none⟩ = some (.int .i64 a0_1) := (blk_cell BK326.out 1).trans rfl; have hcz17_2 : w16.cell? ⟨gb326, 2, none⟩ = some (.int .i64 a0_2) := (blk_cell BK326.out 2).trans rfl; have hcz17_3 : w16.cell? ⟨gb326, 3, none⟩ = some (.int .u64 a0_3) := (blk_cell BK326.out 3).trans rfl; have hcz17_4 : w16.cell? ⟨gb326, 4, none⟩ = some (.int .u64 a0_4) := (blk_cell BK326.out 4).trans rfl; have hcz17_5 : w16.cell? ⟨gb326, 5, none⟩ = some (.int .u64 a0_5) := (blk_cell BK326.out 5).trans rfl; have hfz17_0 := blk_frozen BK326.out 0; have hfz17_1 := blk_frozen BK326.out 1; have hfz17_2 := blk_frozen BK326.out 2; have hfz17_3 := blk_frozen BK326.out 3; have hfz17_4 := blk_frozen BK326.out 4; have hfz17_5 := blk_frozen BK326.out 5; have hcz18_0 : w16.cell? ⟨gb331, 0, none⟩ = some (.int .u64 ((rd_T55 t327 x16_1).f0)) := (blk_cell BK331.out 0).trans rfl; have hcz18_1 : w16.cell? ⟨gb331, 1, none⟩ = some (.int .u64 ((rd_T55 t327 x16_1).f1)) := (blk_cell BK331.out 1).trans rfl; have hfz18_0 := blk_frozen BK331.out 0; have hfz18_1 := blk_frozen BK331.out 1) | ((with_reducible refine gate_callee (f := 31) rfl ?_); refine goesL_ (some 24) rfl rfl Tryd.func31 (by kernel_rfl) rfl #[.agg #[.int .i64 a0_0, .int .i64 a0_1, .int .i64 a0_2, .int .u64 a0_3, .int .u64 a0_4, .int .u64 a0_5], .slice A1 l1.length c1, .agg #[.int .u64 ((rd_T55 t327 x16_1).f0), .int .u64 ((rd_T55 t327 x16_1).f1)]] rfl (by (try simp only [List.map_toArray, List.map_cons, List.map_nil]); first | done | rfl | (simp only [List.length_drop, List.length_take]; rfl)) ?_; (with_reducible refine (spec_RootOf.calls k1 a0_0 a0_1 a0_2 a0_3 a0_4 a0_5 (fun k_ => ((P1_ k_ ∨ w.heap.size ≤ k_) ∧ (some k_ ≠ (u7 : Value).ownBlock ∧ (some k_ ≠ (.slice (some ad330) t327.length co7 : Value).ownBlock ∧ (k_ ≠ gb326 ∧ k_ ≠ gb331))))) _ _ l1 ((rd_T55 t327 x16_1).f0) ((rd_T55 t327 x16_1).f1) t332 _ ?side1 A11.out).mono ?_); (case side1 => exact HO_1.out); rintro e w19 ⟨v333, rfl, ho0, hb⟩; refine ⟨_, rfl, ?_⟩; have n0_ := Aside0.mk (Kd.V_below (by (with_reducible repeat (first | apply Kd.V_alloc | apply Kd.V_drewN | apply Kd.V_drew)); exact HO_1.out) hb); have n1_ := Aside0.mk (Kd.N_below (by (with_reducible repeat (first | apply Kd.N_alloc | apply Kd.N_drewN | apply Kd.N_drew)); exact HO_7.out) hb); have n2_ := Aside0.mk (Kd.R_below (by (with_reducible repeat (first | apply Kd.R_alloc | apply Kd.R_drewN | apply Kd.R_drew)); exact HO_14.out) hb); have n3_ := Aside0.mk (Kd.V_lower (Kd.V_mono (ok' := fun k_ => (P1_ k_ ∨ w.heap.size ≤ k_) ∧ some k_ ≠ (u7 : Value).ownBlock ∧ some k_ ≠ (.slice (some ad330) t327.length co7 : Value).ownBlock ∧ k_ ≠ gb326 ∧ k_ ≠ gb331) ho0 (fun k_ hk_ => ⟨Or.elim hk_ (fun hs_ => hs_.1) (fun hn_ => (.inr (Nat.le_trans (below_size (by repeat (first | (with_reducible first | exact HB.out | apply below_alloc | apply pw_below_drewN | apply below_drew1 | refine below_set ?_ GE326.out | refine below_set ?_ GE331.out) | exact HB.out))) hn_))), Or.elim hk_ (fun hs_ => hs_.2.1) (fun hn_ => (Kd.fresh' (Kd.N_lt (by (with_reducible repeat (first | apply Kd.N_alloc | apply Kd.N_drewN | apply Kd.N_drew)); exact HO_7.out)) k_ hn_)), Or.elim hk_ (fun hs_ => hs_.2.2.1) (fun hn_ => (Kd.fresh' (Kd.R_lt (by (with_reducible repeat (first | apply Kd.R_alloc | apply Kd.R_drewN | apply Kd.R_drew)); exact HO_14.out)) k_ hn_)), Or.elim hk_ (fun hs_ => hs_.2.2.2.1) (fun hn_ => (Kd.freshB (g := gb326) (o := .cells #[.int .i64 a0_0, .int .i64 a0_1, .int .i64 a0_2, .int .u64 a0_3, .int .u64 a0_4, .int .u64 a0_5] 24 (0, 0)) (by (with_reducible repeat (first | refine blk_drewN ?_ _ | refine blk_drew ?_ | refine blk_alloc ?_ _)); exact BK326.out) k_ hn_)), Or.elim hk_ (fun hs_ => hs_.2.2.2.2) (fun hn_ => (Kd.freshB (g := gb331) (o := .cells #[.int .u64 ((rd_T55 t327 x16_1).f0), .int .u64 ((rd_T55 t327 x16_1).f1)] 55 (0, 0)) (by (with_reducible repeat (first | refine blk_drewN ?_ _ | refine blk_drew ?_ | refine blk_alloc ?_ _)); exact BK331.out) k_ hn_))⟩)) (below_size (by repeat (first | (with_reducible first | exact HB.out | apply below_alloc | apply pw_below_drewN | apply below_drew1 | refine below_set ?_ GE326.out | refine below_set ?_ GE331.out) | exact HB.out)))); have n4_ := Aside0.mk (blk_below (g := gb326) (o := .cells #[.int .i64 a0_0, .int .i64 a0_1, .int .i64 a0_2, .int .u64 a0_3, .int .u64 a0_4, .int .u64 a0_5] 24 (0, 0)) (by (with_reducible repeat (first | refine blk_drewN ?_ _ | refine blk_drew ?_ | refine blk_alloc ?_ _)); exact BK326.out) hb); have n5_ := Aside0.mk (blk_below (g := gb331) (o := .cells #[.int .u64 ((rd_T55 t327 x16_1).f0), .int .u64 ((rd_T55 t327 x16_1).f1)] 55 (0, 0)) (by (with_reducible repeat (first | refine blk_drewN ?_ _ | refine blk_drew ?_ | refine blk_alloc ?_ _)); exact BK331.out) hb); have n6_ := Aside0.mk (below_step (by repeat (first | (with_reducible first | exact HB.out | apply below_alloc | apply pw_below_drewN | apply below_drew1 | refine below_set ?_ GE326.out | refine below_set ?_ GE331.out) | exact HB.out)) hb); clear HO_1; clear HO_7; clear HO_14; clear BK326; clear BK331; clear HB; have HO_1 := n0_; have HO_7 := n1_; have HO_14 := n2_; have HO334 := n3_; have BK326 := n4_; have BK331 := n5_; have HB := n6_; clear n0_ n1_ n2_ n3_ n4_ n5_ n6_; (try clear hb); (try clear hb2); (try clear hk); (try clear hi); (try clear ho0); obtain ⟨Ao21, co21, eo21⟩ := Kd.V_slice HO334.out; subst eo21) | ((with_reducible refine gate_builtin (b := .append) (xs := #[.tmp 20, .tmp 25]) rfl ?_); at_builtin; refine Kd.N_append (Kd.slice 5 (Kd.int .u8)) (w0 := w) w.heap.size rfl (.tmp 20) (.tmp 25) 25 28 (.slice none 0 0) 24 rfl Tryd.underlying25 info28 rfl (by decide) (by omega) u7 x7_1 t332 [.slice Ao21 t332.length co21] (fun k_ => (P1_ k_ ∨ w.heap.size ≤ k_) ∧ some k_ ≠ (.slice (some ad330) t327.length co7 : Value).ownBlock ∧ k_ ≠ gb326 ∧ k_ ≠ gb331) (fun k_ => ((fun k_ => (P1_ k_ ∨ w.heap.size ≤ k_) ∧ some k_ ≠ (.slice (some ad330) t327.length co7 : Value).ownBlock ∧ k_ ≠ gb326 ∧ k_ ≠ gb331)) k_ ∧ some k_ ≠ (u7 : Value).ownBlock) rfl rfl ?aP (fun _ hk => hk) ?aF ?aO ?aB ?aS ?aL ?_; (case aP => exact (Kd.FK_slice_mk (Kd.V_reads' (Kd.V_mono (ok' := (fun k_ => ((fun k_ => (P1_ k_ ∨ w.heap.size ≤ k_) ∧ some k_ ≠ (.slice (some ad330) t327.length co7 : Value).ownBlock ∧ k_ ≠ gb326 ∧ k_ ≠ gb331)) k_ ∧ some k_ ≠ (u7 : Value).ownBlock)) (HO334.out) (fun k_ hk => ⟨⟨hk.1, ⟨hk.2.2.1, ⟨hk.2.2.2.1, hk.2.2.2.2⟩⟩⟩, hk.2.1⟩))).2.1 (Kd.V_F (Kd.V_mono (ok' := (fun k_ => ((fun k_ => (P1_ k_ ∨ w.heap.size ≤ k_) ∧ some k_ ≠ (.slice (some ad330) t327.length co7 : Value).ownBlock ∧ k_ ≠ gb326 ∧ k_ ≠ gb331)) k_ ∧ some k_ ≠ (u7 : Value).ownBlock)) (HO334.out) (fun k_ hk => ⟨⟨hk.1, ⟨hk.2.2.1, ⟨hk.2.2.2.1, hk.2.2.2.2⟩⟩⟩, hk.2.1⟩))))); (case aB => exact (by repeat (first | (with_reducible first | exact HB.out | apply below_alloc | apply pw_below_drewN | apply below_drew1 | refine below_set ?_ GE326.out | refine below_set ?_ GE331.out) | exact HB.out))); (case aF => exact (fun k_ hk => ⟨(.inr (Nat.le_trans (below_size (by repeat (first | (with_reducible first | exact HB.out | apply below_alloc | apply pw_below_drewN | apply below_drew1 | refine below_set ?_ GE326.out | refine below_set ?_ GE331.out) | exact HB.out))) hk)), Kd.fresh' (Kd.R_lt (by (with_reducible repeat (first | apply Kd.R_alloc | apply Kd.R_drewN | apply Kd.R_drew)); exact HO_14.out)) k_ hk, Kd.freshB (g := gb326) (o := .cells #[.int .i64 a0_0, .int .i64 a0_1, .int .i64 a0_2, .int .u64 a0_3, .int .u64 a0_4, .int .u64 a0_5] 24 (0, 0)) (by (with_reducible repeat (first | refine blk_drewN ?_ _ | refine blk_drew ?_ | refine blk_alloc ?_ _)); exact BK326.out) k_ hk, Kd.freshB (g := gb331) (o := .cells #[.int .u64 ((rd_T55 t327 x16_1).f0), .int .u64 ((rd_T55 t327 x16_1).f1)] 55 (0, 0)) (by (with_reducible repeat (first | refine blk_drewN ?_ _ | refine blk_drew ?_ | refine blk_alloc ?_ _)); exact BK331.out) k_ hk⟩)); (case aO => exact (by (with_reducible repeat (first | apply Kd.N_alloc | apply Kd.N_drewN | apply Kd.N_drew)); exact HO_7.out)); (case aS => exact (below_size (by repeat (first | (with_reducible first | exact HB.out | apply below_alloc | apply pw_below_drewN | apply below_drew1 | refine below_set ?_ GE326.out | refine below_set ?_ GE331.out) | exact HB.out)))); (case aL => have := LMc12.out; omega); intro v336 w20 ho hb hg hat; rw [← Ny335.out] at ho; have n0_ := Aside0.mk (Kd.V_afterv (ok := (fun k_ => (P1_ k_ ∨ w.heap.size ≤ k_) ∧ some k_ ≠ (.slice (some ad330) t327.length co7 : Value).ownBlock ∧ k_ ≠ gb326 ∧ k_ ≠ gb331)) (by (with_reducible repeat (first | apply Kd.V_alloc | apply Kd.V_drewN | apply Kd.V_drew)); exact Kd.V_mono HO_1.out (fun _ hk => ⟨⟨hk.1, ⟨hk.2.2.1, ⟨hk.2.2.2.1, hk.2.2.2.2⟩⟩⟩, hk.2.1⟩)) hg hat); have n1_ := Aside0.mk (Kd.R_over' (by (with_reducible repeat (first | apply Kd.R_alloc | apply Kd.R_drewN | apply Kd.R_drew)); exact HO_14.out) (Kd.N_typed (by (with_reducible repeat (first | apply Kd.N_alloc | apply Kd.N_drewN | apply Kd.N_drew)); exact HO_7.out)) (by decide) hg); have n2_ := Aside0.mk (blk_grown (g := gb326) (o := .cells #[.int .i64 a0_0, .int .i64 a0_1, .int .i64 a0_2, .int .u64 a0_3, .int .u64 a0_4, .int .u64 a0_5] 24 (0, 0)) (by (with_reducible repeat (first | refine blk_drewN ?_ _ | refine blk_drew ?_ | refine blk_alloc ?_ _)); exact BK326.out) hg (Kd.N_ne HO_7.out BK326.out (by decide))); have n3_ := Aside0.mk (blk_grown (g := gb331) (o := .cells #[.int .u64 ((rd_T55 t327 x16_1).f0), .int .u64 ((rd_T55 t327 x16_1).f1)] 55 (0, 0)) (by (with_reducible repeat (first | refine blk_drewN ?_ _ | refine blk_drew ?_ | refine blk_alloc ?_ _)); exact BK331.out) hg (Kd.N_ne HO_7.out BK331.out (by decide))); have n4_ := Aside0.mk (Kd.V_afterv (ok := (fun k_ => (P1_ k_ ∨ w.heap.size ≤ k_) ∧ some k_ ≠ (.slice (some ad330) t327.length co7 : Value).ownBlock ∧ k_ ≠ gb326 ∧ k_ ≠ gb331)) (by (with_reducible repeat (first | apply Kd.V_alloc | apply Kd.V_drewN | apply Kd.V_drew)); exact Kd.V_mono HO334.out (fun _ hk => ⟨⟨hk.1, ⟨hk.2.2.1, ⟨hk.2.2.2.1, hk.2.2.2.2⟩⟩⟩, hk.2.1⟩)) hg hat); have n5_ := Aside0.mk (hb); have n6_ := Aside0.mk (ho); clear HO_1; clear HO_14; clear BK326; clear BK331; clear HO334; clear HB; clear HO_7; have HO_1 := n0_; have HO_14 := n1_; have BK326 := n2_; have BK331 := n3_; have HO334 := n4_; have HB := n5_; have HO337 := n6_; clear n0_ n1_ n2_ n3_ n4_ n5_ n6_; clear ho hb hg hat))
              go_roundg k1
              case measure => have := HK1.out; omega
              case rel => exact ⟨(y335), (wrap64 (x16_1 + 1)), (by first | rfl | (simp; done) | (simp [*]; done)), H', ⟨by have := HK1.out; omega⟩, ⟨by (with_reducible repeat (first | apply Kd.V_alloc | apply Kd.V_drewN | apply Kd.V_drew)); exact Kd.V_mono HO_1.out (fun _ hk => ⟨hk.1.1, ⟨hk.2, ⟨hk.1.2.1, hk.1.2.2.1⟩⟩⟩)⟩, ⟨by (with_reducible repeat (first | apply Kd.N_alloc | apply Kd.N_drewN | apply Kd.N_drew)); exact Kd.N_mono HO337.out (fun _ hk => ⟨hk.1, ⟨hk.2.1, hk.2.2.1⟩⟩)⟩, ⟨by (with_reducible repeat (first | apply Kd.R_alloc | apply Kd.R_drewN | apply Kd.R_drew)); exact Kd.R_mono HO_14.out (fun _ hk => hk.1)⟩, ⟨by (with_reducible repeat (first | refine blk_drewN ?_ _ | refine blk_drew ?_ | refine blk_alloc ?_ _)); exact BK326.out⟩, ⟨by repeat (first | (with_reducible first | exact HB.out | apply below_alloc | apply pw_below_drewN | apply below_drew1 | refine below_set ?_ GE326.out | refine below_set ?_ GE331.out) | exact HB.out)⟩⟩
            · rw [if_neg c12] at H
              exact absurd H (by simp)
          · rw [if_neg c10] at H
            exact absurd H (by simp)
        · rw [if_neg c9] at H
          exact absurd H (by simp)
      · rw [if_neg c8] at H
        have c8b0 : decide (x16_1 < (t327.length : Int)) = false := decide_eq_false c8
        clear c8
        obtain rfl := Option.some.inj H
        go_wp2
        go_ret
        exact ⟨_, by first | rfl | (simp [errW_none, errW_some] <;> rfl) | (simp [*, errW_none, errW_some] <;> rfl), by (with_reducible repeat (first | apply Kd.N_alloc | apply Kd.N_drewN | apply Kd.N_drew)); exact Kd.N_mono HO_7.out (fun _ hk => hk.1), by repeat (first | (with_reducible first | exact HB.out | apply below_alloc | apply pw_below_drewN | apply below_drew1 | refine below_set ?_ GE326.out) | exact HB.out)⟩

-- NOT PRINTED: function 9 (laws_FnTreeConsistency)

/-! ### impl_word: function 85, by hand -/
def impl_word.f (a0 : Int) (a1 : Int) : Option (List Int) := some (Hs.wordF a0 a1)
theorem impl_word.calls (a0 : Int) (a1 : Int) (r : List Int) (w : World) (h : impl_word.f a0 a1 = some r) :
    Calls Tryd.prog 85 #[.int .u64 a0, .int .i64 a1] w fun e w' => ∃ v0_ : Value, e = .returned (v0_) ∧ Kd.R (Kd.int .u8) 5 w' w.heap.size (fun _ => True) v0_ r ∧ Below w.heap.size w w' := by
  obtain rfl := Option.some.inj h
  exact Hs.word_calls a0 a1 w

/-! ### impl_mixed: function 86, by hand -/
def impl_mixed.f (a0 : Int) (l1 : List Int) : Option (Int) := if l1.length ≤ 140737488351232 then some (Hs.mixF a0 l1) else none
theorem impl_mixed.calls (a0 : Int) (A1 : Option Addr) (c1 : Nat) (l1 : List Int) (r : Int) (w : World) (hr1 : Kd.C (Kd.int .u8) w A1 l1.length l1) (hc1 : l1.length ≤ c1) (h : impl_mixed.f a0 l1 = some r) :
    Calls Tryd.prog 86 #[.int .u64 a0, .slice A1 l1.length c1] w fun e w' => e = .returned (.int .u64 r) ∧ Drawn0 w w' := by
  unfold impl_mixed.f at h
  split at h
  · obtain rfl := Option.some.inj h
    refine (Hs.mixed_calls a0 A1 c1 l1 w hr1 (by assumption)).mono ?_
    rintro e w' ⟨rfl, rfl⟩
    exact ⟨rfl, Drawn0.refl _⟩
  · cases h

/-! ### impl_toy_HashChildren: function 53 -/
def impl_toy_HashChildren.f (a0_0 : Int) (a0_1 : Int) (a0_2 : Int) (a0_3 : Int) (a0_4 : Int) (a0_5 : Int) (l1 : List Int) (l2 : List Int) : Option (List Int) := if a0_0 = 1 then ((impl_mixed.f a0_5 l1).bind fun t342 => ((impl_mixed.f t342 (([255] : List Int))).bind fun t346 => ((impl_mixed.f t346 l2).bind fun t347 => ((impl_word.f t347 a0_2).bind fun t348 => (some t348))))) else ((some (([1] : List Int) : List Int)).bind fun y351 => ((impl_word.f (IntKind.u64.wrap ((l1.length : Int))) 8).bind fun t354 => (if y351.length + t354.length < 140737488355328 then ((some (y351 ++ t354 : List Int)).bind fun y357 => (if y357.length + l1.length < 140737488355328 then ((some (y357 ++ l1 : List Int)).bind fun y360 => (if y360.length + l2.length < 140737488355328 then (some (y360 ++ l2)) else (none))) else (none))) else (none))))
def impl_toy_HashChildren.T2 : Bool × List (List Nat × List Nat) := (true, [([], []), ([0], [0]), ([1], [1]), ([], []), ([2, 3], [2, 3]), ([], []), ([4, 5, 4], [4, 5]), ([], []), ([6, 7, 6], [6, 7]), ([], []), ([9], [9]), ([10], [10]), ([8, 11, 8], [8, 11]), ([12, 12, 0, 1, 2, 3, 4, 5, 6, 7, 8, 9, 10, 11, 12], [12])])
def impl_toy_HashChildren.B2 : List Nat := [0, 1, 3, 0, 15, 0, 63, 0, 255, 0, 512, 1536, 4095, 8191]
theorem impl_toy_HashChildren.tab2 : rtab .any (opsOf Tryd.f53 2) = impl_toy_HashChildren.T2 := by kernel_rfl
theorem impl_toy_HashChildren.bits2 : waitsOk impl_toy_HashChildren.T2.2 impl_toy_HashChildren.B2 = true := by kernel_rfl
set_option maxHeartbeats 8000000 in
set_option maxRecDepth 100000 in
theorem impl_toy_HashChildren.calls (a0_0 : Int) (a0_1 : Int) (a0_2 : Int) (a0_3 : Int) (a0_4 : Int) (a0_5 : Int) (A1 : Option Addr) (c1 : Nat) (l1 : List Int) (A2 : Option Addr) (c2 : Nat) (l2 : List Int) (r : List Int) (w : World) (hr1 : Kd.C (Kd.int .u8) w A1 l1.length l1) (hc1 : l1.length ≤ c1) (hr2 : Kd.C (Kd.int .u8) w A2 l2.length l2) (hc2 : l2.length ≤ c2) (h : impl_toy_HashChildren.f a0_0 a0_1 a0_2 a0_3 a0_4 a0_5 l1 l2 = some r) :
    Calls Tryd.prog 53 #[.agg #[.int .i64 a0_0, .int .i64 a0_1, .int .i64 a0_2, .int .u64 a0_3, .int .u64 a0_4, .int .u64 a0_5], .slice A1 l1.length c1, .slice A2 l2.length c2] w fun e w' => ∃ v0_ : Value, e = .returned (v0_) ∧ Kd.R (Kd.int .u8) 5 w' w.heap.size (fun _ => True) v0_ r ∧ Below w.heap.size w w' := by
  have hu90 := Tryd.underlying90
  have HR1 := Aside0.mk hr1
  have HC1 := Aside0.mk hc1
  clear hr1 hc1
  have HR2 := Aside0.mk hr2
  have HC2 := Aside0.mk hc2
  clear hr2 hc2
  have HB := Aside0.mk (Below.refl w.heap.size w)
  have H : (if a0_0 = 1 then ((impl_mixed.f a0_5 l1).bind fun t342 => ((impl_mixed.f t342 (([255] : List Int))).bind fun t346 => ((impl_mixed.f t346 l2).bind fun t347 => ((impl_word.f t347 a0_2).bind fun t348 => (some t348))))) else ((some (([1] : List Int) : List Int)).bind fun y351 => ((impl_word.f (IntKind.u64.wrap ((l1.length : Int))) 8).bind fun t354 => (if y351.length + t354.length < 140737488355328 then ((some (y351 ++ t354 : List Int)).bind fun y357 => (if y357.length + l1.length < 140737488355328 then ((some (y357 ++ l1 : List Int)).bind fun y360 => (if y360.length + l2.length < 140737488355328 then (some (y360 ++ l2)) else (none))) else (none))) else (none))))) = some r := h
  clear h
  by_cases c4 : a0_0 = 1
  · rw [if_pos c4] at H
    have c4b0 : (a0_0 == 1) = true := beq_iff_eq.mpr c4
    have c4b1 : (a0_0 != 1) = false := bne_eq_false_iff_eq.mpr c4
    clear c4
    replace H := Option.bind_eq_some_iff.mp H
    obtain ⟨t342, A50, H⟩ := H
    replace H : ((impl_mixed.f t342 (([255] : List Int))).bind fun t346 => ((impl_mixed.f t346 l2).bind fun t347 => ((impl_word.f t347 a0_2).bind fun t348 => (some t348)))) = some r := H
    have A5 := Aside0.mk A50
    clear A50
    obtain ⟨y343, hy343⟩ : ∃ y_ : List Int, y_ = (([255] : List Int)) := ⟨_, rfl⟩
    replace H : ((impl_mixed.f t342 y343).bind fun t346 => ((impl_mixed.f t346 l2).bind fun t347 => ((impl_word.f t347 a0_2).bind fun t348 => (some t348)))) = some r := by first | (rw [hy343]; with_reducible exact H) | (have H2_ := (Option.bind_some _ _).symm.trans H; rw [hy343]; with_reducible exact H2_) | (have H2_ := (Option.bind_some _ _).symm.trans H; with_reducible exact H2_) | with_reducible exact H | (rw [hy343]; exact H) | exact H
    have Ny343 := Aside0.mk hy343
    clear hy343
    replace H := Option.bind_eq_some_iff.mp H
    obtain ⟨t346, A60, H⟩ := H
    replace H : ((impl_mixed.f t346 l2).bind fun t347 => ((impl_word.f t347 a0_2).bind fun t348 => (some t348))) = some r := H
    have A6 := Aside0.mk A60
    clear A60
    replace H := Option.bind_eq_some_iff.mp H
    obtain ⟨t347, A70, H⟩ := H
    replace H : ((impl_word.f t347 a0_2).bind fun t348 => (some t348)) = some r := H
    have A7 := Aside0.mk A70
    clear A70
    replace H := Option.bind_eq_some_iff.mp H
    obtain ⟨t348, A80, H⟩ := H
    replace H : (some t348) = some r := H
    have A8 := Aside0.mk A80
    clear A80
    obtain rfl := Option.some.inj H
    go_enter Tryd.func53, Tryd.ntmps53
    try go_wp2_with (first | ((with_reducible refine gate_dst (N := 3) rfl ?_); refine box_event ?hg (N := 3) ?hd (cs := #[.int .i64 a0_0, .int .i64 a0_1, .int .i64 a0_2, .int .u64 a0_3, .int .u64 a0_4, .int .u64 a0_5]) (t := 90) ?hr ?_; (case hd => rfl); (case hg => rfl); (case hr => first | (go_simp; done) | (go_simp; rfl)); intro gb341 hg w9 hbox hb; have n0_ := Aside0.mk (below_step (by repeat (first | (with_reducible first | exact HB.out | apply below_alloc | apply pw_below_drewN | apply below_drew1) | exact HB.out)) hb); have n1_ := Aside0.mk (hbox); have n2_ := Aside0.mk ((by rw [hg]; exact (below_size (by repeat (first | (with_reducible first | exact HB.out | apply below_alloc | apply pw_below_drewN | apply below_drew1) | exact HB.out))) : w.heap.size ≤ gb341)); have n3_ := Aside0.mk ((by rw [hg]; exact (below_size (by repeat (first | (with_reducible first | exact HB.out | apply below_alloc | apply pw_below_drewN | apply below_drew1) | exact HB.out))) : w.heap.size ≤ gb341)); clear HB; have HB := n0_; have BK341 := n1_; have GW341 := n2_; have GE341 := n3_; clear n0_ n1_ n2_ n3_; clear hb hbox hg; have hcz10_0 : w9.cell? ⟨gb341, 0, none⟩ = some (.int .i64 a0_0) := (blk_cell BK341.out 0).trans rfl; have hcz10_1 : w9.cell? ⟨gb341, 1, none⟩ = some (.int .i64 a0_1) := (blk_cell BK341.out 1).trans rfl; have hcz10_2 : w9.cell? ⟨gb341, 2, none⟩ = some (.int .i64 a0_2) := (blk_cell BK341.out 2).trans rfl; have hcz10_3 : w9.cell? ⟨gb341, 3, none⟩ = some (.int .u64 a0_3) := (blk_cell BK341.out 3).trans rfl; have hcz10_4 : w9.cell? ⟨gb341, 4, none⟩ = some (.int .u64 a0_4) := (blk_cell BK341.out 4).trans rfl; have hcz10_5 : w9.cell? ⟨gb341, 5, none⟩ = some (.int .u64 a0_5) := (blk_cell BK341.out 5).trans rfl; have hfz10_0 := blk_frozen BK341.out 0; have hfz10_1 := blk_frozen BK341.out 1; have hfz10_2 := blk_frozen BK341.out 2; have hfz10_3 := blk_frozen BK341.out 3; have hfz10_4 := blk_frozen BK341.out 4; have hfz10_5 := blk_frozen BK341.out 5))
    have n0_ := Aside0.mk (blk_drew BK341.out)
    have n1_ := Aside0.mk (below_drew1 HB.out)
    clear BK341
    clear HB
    have BK341 := n0_
    have HB := n1_
    clear n0_ n1_
    refine start_ (n := 14) (S := fun w' => w'.cell? ⟨gb341, 0, none⟩ = some (.int .i64 a0_0) ∧ w'.cell? ⟨gb341, 1, none⟩ = some (.int .i64 a0_1) ∧ w'.cell? ⟨gb341, 2, none⟩ = some (.int .i64 a0_2) ∧ w'.cell? ⟨gb341, 3, none⟩ = some (.int .u64 a0_3) ∧ w'.cell? ⟨gb341, 4, none⟩ = some (.int .u64 a0_4) ∧ w'.cell? ⟨gb341, 5, none⟩ = some (.int .u64 a0_5)) (ds := []) #[false, false, false, false, false, false, false, false, false, false, false, false, false, false] (by kernel_rfl) rfl rfl ⟨(blk_cell BK341.out 0).trans rfl, (blk_cell BK341.out 1).trans rfl, (blk_cell BK341.out 2).trans rfl, (blk_cell BK341.out 3).trans rfl, (blk_cell BK341.out 4).trans rfl, (blk_cell BK341.out 5).trans rfl⟩ (fun hHeld => ?_); refine with_tabW impl_toy_HashChildren.tab2 impl_toy_HashChildren.bits2 (fun HT_ HW_ => ?_)
    generalize w9.drew = w11 at BK341 HB hHeld ⊢
    refine pure_ (i := 0) (N := some 12) (v := ?_) (a' := ?_) #[true, false, false, false, false, false, false, false, false, false, false, false, false, false] rfl rfl (any_of HT_.out (by kernel_rfl)) (fun _ _ _ h => h) (Or.inl ⟨by rfl, ?_⟩) ?_ ?_
    rotate_left
    · intro w'
      go_simp
      with_reducible rfl
    rotate_left
    · simp only [Act.put, List.setIfInBounds_toArray, List.set_cons_zero, List.set_cons_succ, i64_w, i32_w]
      rfl
    refine pure_ (i := 1) (N := some 13) (v := ?_) (a' := ?_) #[true, true, false, false, false, false, false, false, false, false, false, false, false, false] rfl rfl (any_of HT_.out (by kernel_rfl)) (fun _ _ _ h => h) (Or.inl ⟨by rfl, ?_⟩) ?_ ?_
    rotate_left
    · intro w'
      go_simp
      with_reducible rfl
    rotate_left
    · simp only [Act.put, List.setIfInBounds_toArray, List.set_cons_zero, List.set_cons_succ, i64_w, i32_w]
      rfl
    refine pure_ (i := 3) (N := some 15) (v := ?_) (a' := ?_) #[true, true, false, true, false, false, false, false, false, false, false, false, false, false] rfl rfl (any_of HT_.out (by kernel_rfl)) (fun _ _ _ h => h) (Or.inl ⟨by rfl, ?_⟩) ?_ ?_
    rotate_left
    · intro w'
      go_simp
      with_reducible rfl
    rotate_left
    · simp only [Act.put, List.setIfInBounds_toArray, List.set_cons_zero, List.set_cons_succ, i64_w, i32_w]
      rfl
    refine pure_ (i := 7) (N := some 19) (v := ?_) (a' := ?_) #[true, true, false, true, false, false, false, true, false, false, false, false, false, false] rfl rfl (any_of HT_.out (by kernel_rfl)) (fun _ _ _ h => h) (Or.inl ⟨by rfl, ?_⟩) ?_ ?_
    rotate_left
    · intro w'
      go_simp
      with_reducible rfl
    rotate_left
    · simp only [Act.put, List.setIfInBounds_toArray, List.set_cons_zero, List.set_cons_succ, i64_w, i32_w]
      rfl
    refine pure_ (i := 9) (N := some 21) (v := ?_) (a' := ?_) #[true, true, false, true, false, false, false, true, false, true, false, false, false, false] rfl rfl (any_of HT_.out (by kernel_rfl)) (fun _ _ _ h => h) (Or.inl ⟨by rfl, ?_⟩) ?_ ?_
    rotate_left
    · intro w'
      go_simp
      with_reducible rfl
    rotate_left
    · simp only [Act.put, List.setIfInBounds_toArray, List.set_cons_zero, List.set_cons_succ, i64_w, i32_w]
      rfl
    refine pure_ (i := 10) (N := some 22) (v := ?_) (a' := ?_) #[true, true, false, true, false, false, false, true, false, true, true, false, false, false] rfl rfl (any_of HT_.out (by kernel_rfl)) (fun _ _ _ h => h) (Or.inl ⟨by rfl, ?_⟩) ?_ ?_
    rotate_left
    · intro w'
      go_simp
      with_reducible rfl
    rotate_left
    · simp only [Act.put, List.setIfInBounds_toArray, List.set_cons_zero, List.set_cons_succ, i64_w, i32_w]
      rfl
    refine take_ (i := 2) (N := some 14) (v := ?_) (a' := ?_) #[true, true, true, true, false, false, false, true, false, true, true, false, false, false] rfl rfl (take_ofW HT_.out HW_.out (by kernel_rfl)) (fun _ _ _ h => h) (Or.inl ⟨by rfl, ?_⟩) hHeld ?_ ?_
    rotate_left
    · rintro w' ⟨s0, s1, s2, s3, s4, s5⟩
      go_simp
      with_reducible rfl
    rotate_left
    · simp only [Act.put, List.setIfInBounds_toArray, List.set_cons_zero, List.set_cons_succ, i64_w, i32_w]
      rfl
    refine take_ (i := 11) (N := some 23) (v := ?_) (a' := ?_) #[true, true, true, true, false, false, false, true, false, true, true, true, false, false] rfl rfl (take_ofW HT_.out HW_.out (by kernel_rfl)) (fun _ _ _ h => h) (Or.inl ⟨by rfl, ?_⟩) hHeld ?_ ?_
    rotate_left
    · rintro w' ⟨s0, s1, s2, s3, s4, s5⟩
      go_simp
      with_reducible rfl
    rotate_left
    · simp only [Act.put, List.setIfInBounds_toArray, List.set_cons_zero, List.set_cons_succ, i64_w, i32_w]
      rfl
    refine join_ (σ := Value) 4 #[true, true, true, true, true, true, false, true, false, true, true, true, false, false] (fun s_ => [(16, .int .u64 t342), (17, s_)]) (fun s_ w' => (w'.cell? ⟨gb341, 0, none⟩ = some (.int .i64 a0_0) ∧ w'.cell? ⟨gb341, 1, none⟩ = some (.int .i64 a0_1) ∧ w'.cell? ⟨gb341, 2, none⟩ = some (.int .i64 a0_2) ∧ w'.cell? ⟨gb341, 3, none⟩ = some (.int .u64 a0_3) ∧ w'.cell? ⟨gb341, 4, none⟩ = some (.int .u64 a0_4) ∧ w'.cell? ⟨gb341, 5, none⟩ = some (.int .u64 a0_5)) ∧ (Kd.R (Kd.int .u8) 5 w' w.heap.size (fun _ => True) s_ y343) ∧ (w'.heap[gb341]? = some (.cells #[.int .i64 a0_0, .int .i64 a0_1, .int .i64 a0_2, .int .u64 a0_3, .int .u64 a0_4, .int .u64 a0_5] 90 (0, 0))) ∧ (Below w.heap.size w w')) ?_ ?_
    rotate_left
    · intro hCont
      refine two_ (i := 4) (j := 5) (Ni := some 16) (Nj := some 17) #[true, true, true, true, true, false, false, true, false, true, true, true, false, false] #[true, true, true, true, false, true, false, true, false, true, true, true, false, false] rfl rfl rfl rfl (two_of HT_.out (by kernel_rfl)) (by decide) (by decide) (fun K hK => ?_) (fun K hK => ?_)
      · skip
        refine goes_ Tryd.func86 (by kernel_rfl) rfl #[.int .u64 a0_5, .slice A1 l1.length c1] (by rfl) rfl rfl (by (try simp only [List.map_toArray, List.map_cons, List.map_nil]); first | done | rfl | (simp only [List.length_drop, List.length_take]; rfl)) ?_
        with_reducible refine (impl_mixed.calls a0_5 _ _ l1 t342 _ ?side1 ?side2 A5.out).mono ?_
        (case side1 => repeat (first | exact (Kd.C_below HR1.out HB.out) | (with_reducible refine Kd.C_alloc ?_ _) | (with_reducible refine Kd.C_drewN ?_ _) | (with_reducible refine Kd.C_drew ?_)))
        (case side2 => exact HC1.out)
        rintro e w' ⟨rfl, ⟨nd, rfl⟩⟩
        refine ⟨_, rfl, ?_⟩
        refine hK.out _ _ ⟨(blk_cell BK341.out 0).trans rfl, (blk_cell BK341.out 1).trans rfl, (blk_cell BK341.out 2).trans rfl, (blk_cell BK341.out 3).trans rfl, (blk_cell BK341.out 4).trans rfl, (blk_cell BK341.out 5).trans rfl⟩ (fun hHeld => ?_)
        clear hK K
        refine norm_ (a' := ?_) ?_ ?_
        rotate_left
        · show Act.put _ (some 16) _ = _
          simp only [Act.put, List.setIfInBounds_toArray, List.set_cons_zero, List.set_cons_succ, i64_w, i32_w]
          rfl
        refine one_ (i := 5) (N := some 17) #[true, true, true, true, true, true, false, true, false, true, true, true, false, false] rfl rfl (one_of HT_.out (by kernel_rfl)) (by decide) (fun K hK => ?_)
        refine Kd.R_lit_step (Kd.int .u8) _ 5 ?hg (N := 17) ?hd (xs := ([255] : List Int)) (inner := [.int .u8 255]) (ok := fun _ => True) (okp := fun _ => True) ?hr ?hp (fun _ hk => hk) trivial (Below.refl _ _) (Nat.le_refl _) (by simp) ?_; (case hd => rfl); (case hg => rfl); (case hr => first | (go_simp; done) | (go_simp; rfl)); (case hp => exact (Reps.one (show Kd.M (Kd.int .u8) _ _ _ 255 [.int .u8 255] from rfl) (Reps.none _ _)))
        intro v344 w12 ho13 hb hg_ hnew_
        clear hg_ hnew_
        (first | rw [← Ny343.out] at ho13 | (simp only [Int.reduceToNat] at ho13; rw [← Ny343.out] at ho13))
        have n0_ := Aside0.mk (Kd.R_lower ho13 (below_size (by repeat (first | (with_reducible first | exact HB.out | apply below_alloc | apply pw_below_drewN | apply below_drew1 | refine below_set ?_ GE341.out) | exact HB.out))))
        have n1_ := Aside0.mk (blk_below (g := gb341) (o := .cells #[.int .i64 a0_0, .int .i64 a0_1, .int .i64 a0_2, .int .u64 a0_3, .int .u64 a0_4, .int .u64 a0_5] 90 (0, 0)) (by (with_reducible repeat (first | refine blk_drewN ?_ _ | refine blk_drew ?_ | refine blk_alloc ?_ _)); exact BK341.out) hb)
        have n2_ := Aside0.mk (below_step (by repeat (first | (with_reducible first | exact HB.out | apply below_alloc | apply pw_below_drewN | apply below_drew1 | refine below_set ?_ GE341.out) | exact HB.out)) hb)
        clear BK341
        clear HB
        have HO345 := n0_
        have BK341 := n1_
        have HB := n2_
        clear n0_ n1_ n2_
        clear hb ho13
        refine hK.out _ _ ⟨(blk_cell BK341.out 0).trans rfl, (blk_cell BK341.out 1).trans rfl, (blk_cell BK341.out 2).trans rfl, (blk_cell BK341.out 3).trans rfl, (blk_cell BK341.out 4).trans rfl, (blk_cell BK341.out 5).trans rfl⟩ (fun hHeld => ?_)
        clear hK K
        refine norm_ (a' := ?_) ?_ ?_
        rotate_left
        · show Act.put _ (some 17) _ = _
          simp only [Act.put, List.setIfInBounds_toArray, List.set_cons_zero, List.set_cons_succ, i64_w, i32_w]
          rfl
        exact norm_ (by simp only [putAll, Act.put, List.setIfInBounds_toArray, List.set_cons_zero, List.set_cons_succ]) (hCont (v344) _ ⟨hHeld, (by (with_reducible repeat (first | apply Kd.R_alloc | apply Kd.R_drewN | apply Kd.R_drew)); exact HO345.out), (by (with_reducible repeat (first | refine blk_drewN ?_ _ | refine blk_drew ?_ | refine blk_alloc ?_ _)); exact BK341.out), (by repeat (first | (with_reducible first | exact HB.out | apply below_alloc | apply pw_below_drewN | apply below_drew1 | refine below_set ?_ GE341.out) | exact HB.out))⟩)
      · skip
        refine Kd.R_lit_step (Kd.int .u8) _ 5 ?hg (N := 17) ?hd (xs := ([255] : List Int)) (inner := [.int .u8 255]) (ok := fun _ => True) (okp := fun _ => True) ?hr ?hp (fun _ hk => hk) trivial (Below.refl _ _) (Nat.le_refl _) (by simp) ?_; (case hd => rfl); (case hg => rfl); (case hr => first | (go_simp; done) | (go_simp; rfl)); (case hp => exact (Reps.one (show Kd.M (Kd.int .u8) _ _ _ 255 [.int .u8 255] from rfl) (Reps.none _ _)))
        intro v344 w12 ho13 hb hg_ hnew_
        clear hg_ hnew_
        (first | rw [← Ny343.out] at ho13 | (simp only [Int.reduceToNat] at ho13; rw [← Ny343.out] at ho13))
        have n0_ := Aside0.mk (Kd.R_lower ho13 (below_size (by repeat (first | (with_reducible first | exact HB.out | apply below_alloc | apply pw_below_drewN | apply below_drew1 | refine below_set ?_ GE341.out) | exact HB.out))))
        have n1_ := Aside0.mk (blk_below (g := gb341) (o := .cells #[.int .i64 a0_0, .int .i64 a0_1, .int .i64 a0_2, .int .u64 a0_3, .int .u64 a0_4, .int .u64 a0_5] 90 (0, 0)) (by (with_reducible repeat (first | refine blk_drewN ?_ _ | refine blk_drew ?_ | refine blk_alloc ?_ _)); exact BK341.out) hb)
        have n2_ := Aside0.mk (below_step (by repeat (first | (with_reducible first | exact HB.out | apply below_alloc | apply pw_below_drewN | apply below_drew1 | refine below_set ?_ GE341.out) | exact HB.out)) hb)
        clear BK341
        clear HB
        have HO345 := n0_
        have BK341 := n1_
        have HB := n2_
        clear n0_ n1_ n2_
        clear hb ho13
        refine hK.out _ _ ⟨(blk_cell BK341.out 0).trans rfl, (blk_cell BK341.out 1).trans rfl, (blk_cell BK341.out 2).trans rfl, (blk_cell BK341.out 3).trans rfl, (blk_cell BK341.out 4).trans rfl, (blk_cell BK341.out 5).trans rfl⟩ (fun hHeld => ?_)
        clear hK K
        refine norm_ (a' := ?_) ?_ ?_
        rotate_left
        · show Act.put _ (some 17) _ = _
          simp only [Act.put, List.setIfInBounds_toArray, List.set_cons_zero, List.set_cons_succ, i64_w, i32_w]
          rfl
        refine one_ (i := 4) (N := some 16) #[true, true, true, true, true, true, false, true, false, true, true, true, false, false] rfl rfl (one_of HT_.out (by kernel_rfl)) (by decide) (fun K hK => ?_)
        refine goes_ Tryd.func86 (by kernel_rfl) rfl #[.int .u64 a0_5, .slice A1 l1.length c1] (by rfl) rfl rfl (by (try simp only [List.map_toArray, List.map_cons, List.map_nil]); first | done | rfl | (simp only [List.length_drop, List.length_take]; rfl)) ?_
        with_reducible refine (impl_mixed.calls a0_5 _ _ l1 t342 _ ?side1 ?side2 A5.out).mono ?_
        (case side1 => repeat (first | exact (Kd.C_below HR1.out HB.out) | (with_reducible refine Kd.C_alloc ?_ _) | (with_reducible refine Kd.C_drewN ?_ _) | (with_reducible refine Kd.C_drew ?_)))
        (case side2 => exact HC1.out)
        rintro e w' ⟨rfl, ⟨nd, rfl⟩⟩
        refine ⟨_, rfl, ?_⟩
        refine hK.out _ _ ⟨(blk_cell BK341.out 0).trans rfl, (blk_cell BK341.out 1).trans rfl, (blk_cell BK341.out 2).trans rfl, (blk_cell BK341.out 3).trans rfl, (blk_cell BK341.out 4).trans rfl, (blk_cell BK341.out 5).trans rfl⟩ (fun hHeld => ?_)
        clear hK K
        refine norm_ (a' := ?_) ?_ ?_
        rotate_left
        · show Act.put _ (some 16) _ = _
          simp only [Act.put, List.setIfInBounds_toArray, List.set_cons_zero, List.set_cons_succ, i64_w, i32_w]
          rfl
        exact norm_ (by simp only [putAll, Act.put, List.setIfInBounds_toArray, List.set_cons_zero, List.set_cons_succ]) (hCont (v344) _ ⟨hHeld, (by (with_reducible repeat (first | apply Kd.R_alloc | apply Kd.R_drewN | apply Kd.R_drew)); exact HO345.out), (by (with_reducible repeat (first | refine blk_drewN ?_ _ | refine blk_drew ?_ | refine blk_alloc ?_ _)); exact BK341.out), (by repeat (first | (with_reducible first | exact HB.out | apply below_alloc | apply pw_below_drewN | apply below_drew1 | refine below_set ?_ GE341.out) | exact HB.out))⟩)
    rintro v344 w14 ⟨hS_, h0_, h1_, h2_⟩
    have n0_ : Aside0 (Kd.R (Kd.int .u8) 5 w14 w.heap.size (fun _ => True) v344 y343) := ⟨h0_⟩
    have n1_ : Aside0 (w14.heap[gb341]? = some (.cells #[.int .i64 a0_0, .int .i64 a0_1, .int .i64 a0_2, .int .u64 a0_3, .int .u64 a0_4, .int .u64 a0_5] 90 (0, 0))) := ⟨h1_⟩
    have n2_ : Aside0 (Below w.heap.size w w14) := ⟨h2_⟩
    clear BK341
    clear HB
    clear h0_ h1_ h2_
    have HO345 := n0_
    have BK341 := n1_
    have HB := n2_
    clear n0_ n1_ n2_
    have hHeld : w14.cell? ⟨gb341, 0, none⟩ = some (.int .i64 a0_0) ∧ w14.cell? ⟨gb341, 1, none⟩ = some (.int .i64 a0_1) ∧ w14.cell? ⟨gb341, 2, none⟩ = some (.int .i64 a0_2) ∧ w14.cell? ⟨gb341, 3, none⟩ = some (.int .u64 a0_3) ∧ w14.cell? ⟨gb341, 4, none⟩ = some (.int .u64 a0_4) ∧ w14.cell? ⟨gb341, 5, none⟩ = some (.int .u64 a0_5) := hS_
    obtain ⟨Ao15, co15, eo15⟩ := Kd.R_slice HO345.out
    (first | subst eo15 | (injection eo15 with f1_ f2_ f3_; have f4_ := f1_.symm; have f5_ := f3_.symm; clear f1_ f2_ f3_; subst f4_; subst f5_))
    refine norm_ (a' := ?_) ?_ ?_
    rotate_left
    · simp only [putAll, Act.put, List.setIfInBounds_toArray, List.set_cons_zero, List.set_cons_succ]
      rfl
    refine one_ (i := 6) (N := some 18) #[true, true, true, true, true, true, true, true, false, true, true, true, false, false] rfl rfl (one_of HT_.out (by kernel_rfl)) (by decide) (fun K hK => ?_)
    refine goes_ Tryd.func86 (by kernel_rfl) rfl #[.int .u64 t342, .slice Ao15 y343.length co15] (by rfl) rfl rfl (by (try simp only [List.map_toArray, List.map_cons, List.map_nil]); first | done | rfl | (simp only [List.length_drop, List.length_take]; rfl)) ?_
    with_reducible refine (impl_mixed.calls t342 _ _ y343 t346 _ ?side1 ?side2 A6.out).mono ?_
    (case side1 => repeat (first | exact (Kd.R_reads' HO345.out).2.2 | (with_reducible refine Kd.C_alloc ?_ _) | (with_reducible refine Kd.C_drewN ?_ _) | (with_reducible refine Kd.C_drew ?_)))
    (case side2 => exact (Kd.R_reads' HO345.out).2.1)
    rintro e w' ⟨rfl, ⟨nd, rfl⟩⟩
    refine ⟨_, rfl, ?_⟩
    refine hK.out _ _ ⟨(blk_cell BK341.out 0).trans rfl, (blk_cell BK341.out 1).trans rfl, (blk_cell BK341.out 2).trans rfl, (blk_cell BK341.out 3).trans rfl, (blk_cell BK341.out 4).trans rfl, (blk_cell BK341.out 5).trans rfl⟩ (fun hHeld => ?_)
    clear hK K
    refine norm_ (a' := ?_) ?_ ?_
    rotate_left
    · show Act.put _ (some 18) _ = _
      simp only [Act.put, List.setIfInBounds_toArray, List.set_cons_zero, List.set_cons_succ, i64_w, i32_w]
      rfl
    refine one_ (i := 8) (N := some 20) #[true, true, true, true, true, true, true, true, true, true, true, true, false, false] rfl rfl (one_of HT_.out (by kernel_rfl)) (by decide) (fun K hK => ?_)
    refine goes_ Tryd.func86 (by kernel_rfl) rfl #[.int .u64 t346, .slice A2 l2.length c2] (by rfl) rfl rfl (by (try simp only [List.map_toArray, List.map_cons, List.map_nil]); first | done | rfl | (simp only [List.length_drop, List.length_take]; rfl)) ?_
    with_reducible refine (impl_mixed.calls t346 _ _ l2 t347 _ ?side1 ?side2 A7.out).mono ?_
    (case side1 => repeat (first | exact (Kd.C_below HR2.out (by repeat (first | (with_reducible first | exact HB.out | apply below_alloc | apply pw_below_drewN | apply below_drew1 | refine below_set ?_ GE341.out) | exact HB.out))) | (with_reducible refine Kd.C_alloc ?_ _) | (with_reducible refine Kd.C_drewN ?_ _) | (with_reducible refine Kd.C_drew ?_)))
    (case side2 => exact HC2.out)
    rintro e w' ⟨rfl, ⟨nd, rfl⟩⟩
    refine ⟨_, rfl, ?_⟩
    refine hK.out _ _ ⟨(blk_cell BK341.out 0).trans rfl, (blk_cell BK341.out 1).trans rfl, (blk_cell BK341.out 2).trans rfl, (blk_cell BK341.out 3).trans rfl, (blk_cell BK341.out 4).trans rfl, (blk_cell BK341.out 5).trans rfl⟩ (fun hHeld => ?_)
    clear hK K
    refine norm_ (a' := ?_) ?_ ?_
    rotate_left
    · show Act.put _ (some 20) _ = _
      simp only [Act.put, List.setIfInBounds_toArray, List.set_cons_zero, List.set_cons_succ, i64_w, i32_w]
      rfl
    refine one_ (i := 12) (N := some 24) #[true, true, true, true, true, true, true, true, true, true, true, true, true, false] rfl rfl (one_of HT_.out (by kernel_rfl)) (by decide) (fun K hK => ?_)
    refine goes_ Tryd.func85 (by kernel_rfl) rfl #[.int .u64 t347, .int .i64 a0_2] (by rfl) rfl rfl (by (try simp only [List.map_toArray, List.map_cons, List.map_nil]); first | done | rfl | (simp only [List.length_drop, List.length_take]; rfl)) ?_
    with_reducible refine (impl_word.calls t347 a0_2 t348 _ A8.out).mono ?_
    rintro e w16 ⟨v349, rfl, ho0, hb⟩
    refine ⟨_, rfl, ?_⟩
    have n0_ := Aside0.mk (Kd.R_elder' (by (with_reducible repeat (first | apply Kd.R_alloc | apply Kd.R_drewN | apply Kd.R_drew)); exact HO345.out) (Kd.R_base ho0) hb)
    have n1_ := Aside0.mk (Kd.R_lower (Kd.R_new' ho0 (Kd.R_lt (by (with_reducible repeat (first | apply Kd.R_alloc | apply Kd.R_drewN | apply Kd.R_drew)); exact HO345.out))) (below_size (by repeat (first | (with_reducible first | exact HB.out | apply below_alloc | apply pw_below_drewN | apply below_drew1 | refine below_set ?_ GE341.out) | exact HB.out))))
    have n2_ := Aside0.mk (blk_below (g := gb341) (o := .cells #[.int .i64 a0_0, .int .i64 a0_1, .int .i64 a0_2, .int .u64 a0_3, .int .u64 a0_4, .int .u64 a0_5] 90 (0, 0)) (by (with_reducible repeat (first | refine blk_drewN ?_ _ | refine blk_drew ?_ | refine blk_alloc ?_ _)); exact BK341.out) hb)
    have n3_ := Aside0.mk (below_step (by repeat (first | (with_reducible first | exact HB.out | apply below_alloc | apply pw_below_drewN | apply below_drew1 | refine below_set ?_ GE341.out) | exact HB.out)) hb)
    clear HO345
    clear BK341
    clear HB
    have HO345 := n0_
    have HO350 := n1_
    have BK341 := n2_
    have HB := n3_
    clear n0_ n1_ n2_ n3_
    (try clear hb)
    (try clear hb2)
    (try clear hk)
    (try clear hi)
    (try clear ho0)
    refine hK.out _ _ ⟨(blk_cell BK341.out 0).trans rfl, (blk_cell BK341.out 1).trans rfl, (blk_cell BK341.out 2).trans rfl, (blk_cell BK341.out 3).trans rfl, (blk_cell BK341.out 4).trans rfl, (blk_cell BK341.out 5).trans rfl⟩ (fun hHeld => ?_)
    clear hK K
    refine norm_ (a' := ?_) ?_ ?_
    rotate_left
    · show Act.put _ (some 24) _ = _
      simp only [Act.put, List.setIfInBounds_toArray, List.set_cons_zero, List.set_cons_succ, i64_w, i32_w]
      rfl
    refine pure_ (i := 13) (N := some 6) (v := ?_) (a' := ?_) #[true, true, true, true, true, true, true, true, true, true, true, true, true, true] rfl rfl (any_of HT_.out (by kernel_rfl)) (fun _ _ _ h => h) (Or.inl ⟨by rfl, ?_⟩) ?_ ?_
    rotate_left
    · intro w'
      go_simp
      with_reducible rfl
    rotate_left
    · simp only [Act.put, List.setIfInBounds_toArray, List.set_cons_zero, List.set_cons_succ, i64_w, i32_w]
      rfl
    refine done_ (done_of HT_.out (by kernel_rfl)) ?_
    try go_wp2
    go_ret
    exact ⟨_, by first | rfl | (simp [errW_none, errW_some] <;> rfl) | (simp [*, errW_none, errW_some] <;> rfl), by (with_reducible repeat (first | apply Kd.R_alloc | apply Kd.R_drewN | apply Kd.R_drew)); exact Kd.R_mono HO350.out (fun _ hk => trivial), by repeat (first | (with_reducible first | exact HB.out | apply below_alloc | apply pw_below_drewN | apply below_drew1 | refine below_set ?_ GE341.out) | exact HB.out)⟩
  · rw [if_neg c4] at H
    have c4b0 : (a0_0 == 1) = false := beq_eq_false_iff_ne.mpr c4
    have c4b1 : (a0_0 != 1) = true := bne_iff_ne.mpr c4
    obtain ⟨y351, hy351⟩ : ∃ y_ : List Int, y_ = (([1] : List Int)) := ⟨_, rfl⟩
    replace H : ((impl_word.f (IntKind.u64.wrap ((l1.length : Int))) 8).bind fun t354 => (if y351.length + t354.length < 140737488355328 then ((some (y351 ++ t354 : List Int)).bind fun y357 => (if y357.length + l1.length < 140737488355328 then ((some (y357 ++ l1 : List Int)).bind fun y360 => (if y360.length + l2.length < 140737488355328 then (some (y360 ++ l2)) else (none))) else (none))) else (none))) = some r := by first | (rw [hy351]; with_reducible exact H) | (have H2_ := (Option.bind_some _ _).symm.trans H; rw [hy351]; with_reducible exact H2_) | (have H2_ := (Option.bind_some _ _).symm.trans H; with_reducible exact H2_) | with_reducible exact H | (rw [hy351]; exact H) | exact H
    have Ny351 := Aside0.mk hy351
    clear hy351
    replace H := Option.bind_eq_some_iff.mp H
    obtain ⟨t354, A170, H⟩ := H
    replace H : (if y351.length + t354.length < 140737488355328 then ((some (y351 ++ t354 : List Int)).bind fun y357 => (if y357.length + l1.length < 140737488355328 then ((some (y357 ++ l1 : List Int)).bind fun y360 => (if y360.length + l2.length < 140737488355328 then (some (y360 ++ l2)) else (none))) else (none))) else (none)) = some r := H
    have A17 := Aside0.mk A170
    clear A170
    by_cases c18 : y351.length + t354.length < 140737488355328
    · rw [if_pos c18] at H
      have LMc18 := Aside0.mk c18
      clear c18
      obtain ⟨y357, hy357⟩ : ∃ y_ : List Int, y_ = (y351 ++ t354) := ⟨_, rfl⟩
      replace H : (if y357.length + l1.length < 140737488355328 then ((some (y357 ++ l1 : List Int)).bind fun y360 => (if y360.length + l2.length < 140737488355328 then (some (y360 ++ l2)) else (none))) else (none)) = some r := by first | (rw [hy357]; with_reducible exact H) | (have H2_ := (Option.bind_some _ _).symm.trans H; rw [hy357]; with_reducible exact H2_) | (have H2_ := (Option.bind_some _ _).symm.trans H; with_reducible exact H2_) | with_reducible exact H | (rw [hy357]; exact H) | exact H
      have Ny357 := Aside0.mk hy357
      clear hy357
      by_cases c19 : y357.length + l1.length < 140737488355328
      · rw [if_pos c19] at H
        have LMc19 := Aside0.mk c19
        clear c19
        obtain ⟨y360, hy360⟩ : ∃ y_ : List Int, y_ = (y357 ++ l1) := ⟨_, rfl⟩
        replace H : (if y360.length + l2.length < 140737488355328 then (some (y360 ++ l2)) else (none)) = some r := by first | (rw [hy360]; with_reducible exact H) | (have H2_ := (Option.bind_some _ _).symm.trans H; rw [hy360]; with_reducible exact H2_) | (have H2_ := (Option.bind_some _ _).symm.trans H; with_reducible exact H2_) | with_reducible exact H | (rw [hy360]; exact H) | exact H
        have Ny360 := Aside0.mk hy360
        clear hy360
        by_cases c20 : y360.length + l2.length < 140737488355328
        · rw [if_pos c20] at H
          have LMc20 := Aside0.mk c20
          clear c20
          obtain ⟨y363, hy363⟩ : ∃ y_ : List Int, y_ = (y360 ++ l2) := ⟨_, rfl⟩
          replace H : (some y363) = some r := by first | (rw [hy363]; with_reducible exact H) | (have H2_ := (Option.bind_some _ _).symm.trans H; rw [hy363]; with_reducible exact H2_) | (have H2_ := (Option.bind_some _ _).symm.trans H; with_reducible exact H2_) | with_reducible exact H | (rw [hy363]; exact H) | exact H
          have Ny363 := Aside0.mk hy363
          clear hy363
          obtain rfl := Option.some.inj H
          go_enter Tryd.func53, Tryd.ntmps53
          go_wp2_with (first | ((with_reducible refine gate_dst (N := 3) rfl ?_); refine box_event ?hg (N := 3) ?hd (cs := #[.int .i64 a0_0, .int .i64 a0_1, .int .i64 a0_2, .int .u64 a0_3, .int .u64 a0_4, .int .u64 a0_5]) (t := 90) ?hr ?_; (case hd => rfl); (case hg => rfl); (case hr => first | (go_simp; done) | (go_simp; rfl)); intro gb341 hg w21 hbox hb; have n0_ := Aside0.mk (below_step (by repeat (first | (with_reducible first | exact HB.out | apply below_alloc | apply pw_below_drewN | apply below_drew1) | exact HB.out)) hb); have n1_ := Aside0.mk (hbox); have n2_ := Aside0.mk ((by rw [hg]; exact (below_size (by repeat (first | (with_reducible first | exact HB.out | apply below_alloc | apply pw_below_drewN | apply below_drew1) | exact HB.out))) : w.heap.size ≤ gb341)); have n3_ := Aside0.mk ((by rw [hg]; exact (below_size (by repeat (first | (with_reducible first | exact HB.out | apply below_alloc | apply pw_below_drewN | apply below_drew1) | exact HB.out))) : w.heap.size ≤ gb341)); clear HB; have HB := n0_; have BK341 := n1_; have GW341 := n2_; have GE341 := n3_; clear n0_ n1_ n2_ n3_; clear hb hbox hg; have hcz22_0 : w21.cell? ⟨gb341, 0, none⟩ = some (.int .i64 a0_0) := (blk_cell BK341.out 0).trans rfl; have hcz22_1 : w21.cell? ⟨gb341, 1, none⟩ = some (.int .i64 a0_1) := (blk_cell BK341.out 1).trans rfl; have hcz22_2 : w21.cell? ⟨gb341, 2, none⟩ = some (.int .i64 a0_2) := (blk_cell BK341.out 2).trans rfl; have hcz22_3 : w21.cell? ⟨gb341, 3, none⟩ = some (.int .u64 a0_3) := (blk_cell BK341.out 3).trans rfl; have hcz22_4 : w21.cell? ⟨gb341, 4, none⟩ = some (.int .u64 a0_4) := (blk_cell BK341.out 4).trans rfl; have hcz22_5 : w21.cell? ⟨gb341, 5, none⟩ = some (.int .u64 a0_5) := (blk_cell BK341.out 5).trans rfl; have hfz22_0 := blk_frozen BK341.out 0; have hfz22_1 := blk_frozen BK341.out 1; have hfz22_2 := blk_frozen BK341.out 2; have hfz22_3 := blk_frozen BK341.out 3; have hfz22_4 := blk_frozen BK341.out 4; have hfz22_5 := blk_frozen BK341.out 5) | ((with_reducible refine gate_dst (N := 25) rfl ?_); refine Kd.R_lit (Kd.int .u8) _ 5 ?hg (N := 25) ?hd (xs := ([1] : List Int)) (inner := [.int .u8 1]) (ok := fun _ => True) (okp := fun _ => True) ?hr ?hp (fun _ hk => hk) trivial (Below.refl _ _) (Nat.le_refl _) (by simp) ?_; (case hd => rfl); (case hg => rfl); (case hr => first | (go_simp; done) | (go_simp; rfl)); (case hp => exact (Reps.one (show Kd.M (Kd.int .u8) _ _ _ 1 [.int .u8 1] from rfl) (Reps.none _ _))); intro v352 w23 ho24 hb hg_ hnew_; clear hg_ hnew_; (first | rw [← Ny351.out] at ho24 | (simp only [Int.reduceToNat] at ho24; rw [← Ny351.out] at ho24)); have n0_ := Aside0.mk (Kd.R_lower ho24 (below_size (by repeat (first | (with_reducible first | exact HB.out | apply below_alloc | apply pw_below_drewN | apply below_drew1 | refine below_set ?_ GE341.out) | exact HB.out)))); have n1_ := Aside0.mk (blk_below (g := gb341) (o := .cells #[.int .i64 a0_0, .int .i64 a0_1, .int .i64 a0_2, .int .u64 a0_3, .int .u64 a0_4, .int .u64 a0_5] 90 (0, 0)) (by (with_reducible repeat (first | refine blk_drewN ?_ _ | refine blk_drew ?_ | refine blk_alloc ?_ _)); exact BK341.out) hb); have n2_ := Aside0.mk (below_step (by repeat (first | (with_reducible first | exact HB.out | apply below_alloc | apply pw_below_drewN | apply below_drew1 | refine below_set ?_ GE341.out) | exact HB.out)) hb); clear BK341; clear HB; have HO353 := n0_; have BK341 := n1_; have HB := n2_; clear n0_ n1_ n2_; clear hb ho24) | ((with_reducible refine gate_callee (f := 85) rfl ?_); refine goesL_ (some 29) rfl rfl Tryd.func85 (by kernel_rfl) rfl #[.int .u64 (IntKind.u64.wrap ((l1.length : Int))), .int .i64 8] rfl (by (try simp only [List.map_toArray, List.map_cons, List.map_nil]); first | done | rfl | (simp only [List.length_drop, List.length_take]; rfl)) ?_; (with_reducible refine (impl_word.calls (IntKind.u64.wrap ((l1.length : Int))) 8 t354 _ A17.out).mono ?_); rintro e w25 ⟨v355, rfl, ho0, hb⟩; refine ⟨_, rfl, ?_⟩; have n0_ := Aside0.mk (Kd.R_elder' (by (with_reducible repeat (first | apply Kd.R_alloc | apply Kd.R_drewN | apply Kd.R_drew)); exact HO353.out) (Kd.R_base ho0) hb); have n1_ := Aside0.mk (Kd.R_lower (Kd.R_new' ho0 (Kd.R_lt (by (with_reducible repeat (first | apply Kd.R_alloc | apply Kd.R_drewN | apply Kd.R_drew)); exact HO353.out))) (below_size (by repeat (first | (with_reducible first | exact HB.out | apply below_alloc | apply pw_below_drewN | apply below_drew1 | refine below_set ?_ GE341.out) | exact HB.out)))); have n2_ := Aside0.mk (blk_below (g := gb341) (o := .cells #[.int .i64 a0_0, .int .i64 a0_1, .int .i64 a0_2, .int .u64 a0_3, .int .u64 a0_4, .int .u64 a0_5] 90 (0, 0)) (by (with_reducible repeat (first | refine blk_drewN ?_ _ | refine blk_drew ?_ | refine blk_alloc ?_ _)); exact BK341.out) hb); have n3_ := Aside0.mk (below_step (by repeat (first | (with_reducible first | exact HB.out | apply below_alloc | apply pw_below_drewN | apply below_drew1 | refine below_set ?_ GE341.out) | exact HB.out)) hb); clear HO353; clear BK341; clear HB; have HO353 := n0_; have HO356 := n1_; have BK341 := n2_; have HB := n3_; clear n0_ n1_ n2_ n3_; (try clear hb); (try clear hb2); (try clear hk); (try clear hi); (try clear ho0); obtain ⟨Ao27, co27, eo27⟩ := Kd.R_slice HO356.out; subst eo27) | ((with_reducible refine gate_builtin (b := .append) (xs := #[.tmp 25, .tmp 29]) rfl ?_); at_builtin; refine Kd.R_append_rows (Kd.int .u8) (w0 := w) w.heap.size rfl (.tmp 25) (.tmp 29) 28 5 (.int .u8 0) 1 rfl Tryd.underlying28 info5 rfl (by decide) (by omega) v352 y351 t354 _ _ _ (fun k_ => some k_ ≠ (.slice Ao27 t354.length co27 : Value).ownBlock) (fun _ => False) rfl rfl ?aO ?aR (fun _ _ h => h) (fun _ h => h.elim) ?aF ?aB ?aS ?aL ?_; (case aR => repeat (first | exact (Kd.R_reads' HO356.out).2.2 | (with_reducible refine Kd.C_alloc ?_ _) | (with_reducible refine Kd.C_drewN ?_ _) | (with_reducible refine Kd.C_drew ?_))); (case aB => exact (by repeat (first | (with_reducible first | exact HB.out | apply below_alloc | apply pw_below_drewN | apply below_drew1 | refine below_set ?_ GE341.out) | exact HB.out))); (case aF => exact (fun k_ hk => Kd.fresh' (Kd.R_lt (by (with_reducible repeat (first | apply Kd.R_alloc | apply Kd.R_drewN | apply Kd.R_drew)); exact HO356.out)) k_ hk)); (case aO => exact (by (with_reducible repeat (first | apply Kd.R_alloc | apply Kd.R_drewN | apply Kd.R_drew)); exact Kd.R_mono HO353.out (fun _ hk => hk.2))); (case aS => exact (below_size (by repeat (first | (with_reducible first | exact HB.out | apply below_alloc | apply pw_below_drewN | apply below_drew1 | refine below_set ?_ GE341.out) | exact HB.out)))); (case aL => have := LMc18.out; omega); intro v358 w26 ho hb hg hat; rw [← Ny357.out] at ho; have n0_ := Aside0.mk (blk_grown (g := gb341) (o := .cells #[.int .i64 a0_0, .int .i64 a0_1, .int .i64 a0_2, .int .u64 a0_3, .int .u64 a0_4, .int .u64 a0_5] 90 (0, 0)) (by (with_reducible repeat (first | refine blk_drewN ?_ _ | refine blk_drew ?_ | refine blk_alloc ?_ _)); exact BK341.out) hg (Kd.R_ne HO353.out BK341.out (by decide))); have n1_ := Aside0.mk (Kd.R_after (ok := (fun _ => True)) (by (with_reducible repeat (first | apply Kd.R_alloc | apply Kd.R_drewN | apply Kd.R_drew)); exact HO356.out) hg hat); have n2_ := Aside0.mk (hb); have n3_ := Aside0.mk (ho); clear BK341; clear HO356; clear HB; clear HO353; have BK341 := n0_; have HO356 := n1_; have HB := n2_; have HO359 := n3_; clear n0_ n1_ n2_ n3_; clear ho hb hg hat) | ((with_reducible refine gate_builtin (b := .append) (xs := #[.tmp 31, .tmp 32]) rfl ?_); at_builtin; refine Kd.R_append_rows (Kd.int .u8) (w0 := w) w.heap.size rfl (.tmp 31) (.tmp 32) 28 5 (.int .u8 0) 1 rfl Tryd.underlying28 info5 rfl (by decide) (by omega) v358 y357 l1 _ _ _ (fun k_ => some k_ ≠ (.slice Ao27 t354.length co27 : Value).ownBlock) (fun _ => False) rfl rfl ?aO ?aR (fun _ _ h => h) (fun _ h => h.elim) ?aF ?aB ?aS ?aL ?_; (case aR => repeat (first | exact (Kd.C_below HR1.out HB.out) | (with_reducible refine Kd.C_alloc ?_ _) | (with_reducible refine Kd.C_drewN ?_ _) | (with_reducible refine Kd.C_drew ?_))); (case aB => exact (by repeat (first | (with_reducible first | exact HB.out | apply below_alloc | apply pw_below_drewN | apply below_drew1 | refine below_set ?_ GE341.out) | exact HB.out))); (case aF => exact (fun k_ hk => Kd.fresh' (Kd.R_lt (by (with_reducible repeat (first | apply Kd.R_alloc | apply Kd.R_drewN | apply Kd.R_drew)); exact HO356.out)) k_ hk)); (case aO => exact (by (with_reducible repeat (first | apply Kd.R_alloc | apply Kd.R_drewN | apply Kd.R_drew)); exact HO359.out)); (case aS => exact (below_size (by repeat (first | (with_reducible first | exact HB.out | apply below_alloc | apply pw_below_drewN | apply below_drew1 | refine below_set ?_ GE341.out) | exact HB.out)))); (case aL => have := LMc19.out; omega); intro v361 w28 ho hb hg hat; rw [← Ny360.out] at ho; have n0_ := Aside0.mk (blk_grown (g := gb341) (o := .cells #[.int .i64 a0_0, .int .i64 a0_1, .int .i64 a0_2, .int .u64 a0_3, .int .u64 a0_4, .int .u64 a0_5] 90 (0, 0)) (by (with_reducible repeat (first | refine blk_drewN ?_ _ | refine blk_drew ?_ | refine blk_alloc ?_ _)); exact BK341.out) hg (Kd.R_ne HO359.out BK341.out (by decide))); have n1_ := Aside0.mk (Kd.R_after (ok := (fun _ => True)) (by (with_reducible repeat (first | apply Kd.R_alloc | apply Kd.R_drewN | apply Kd.R_drew)); exact HO356.out) hg hat); have n2_ := Aside0.mk (hb); have n3_ := Aside0.mk (ho); clear BK341; clear HO356; clear HB; clear HO359; have BK341 := n0_; have HO356 := n1_; have HB := n2_; have HO362 := n3_; clear n0_ n1_ n2_ n3_; clear ho hb hg hat) | ((with_reducible refine gate_builtin (b := .append) (xs := #[.tmp 33, .tmp 34]) rfl ?_); at_builtin; refine Kd.R_append_rows (Kd.int .u8) (w0 := w) w.heap.size rfl (.tmp 33) (.tmp 34) 28 5 (.int .u8 0) 1 rfl Tryd.underlying28 info5 rfl (by decide) (by omega) v361 y360 l2 _ _ _ (fun k_ => some k_ ≠ (.slice Ao27 t354.length co27 : Value).ownBlock) (fun _ => False) rfl rfl ?aO ?aR (fun _ _ h => h) (fun _ h => h.elim) ?aF ?aB ?aS ?aL ?_; (case aR => repeat (first | exact (Kd.C_below HR2.out HB.out) | (with_reducible refine Kd.C_alloc ?_ _) | (with_reducible refine Kd.C_drewN ?_ _) | (with_reducible refine Kd.C_drew ?_))); (case aB => exact (by repeat (first | (with_reducible first | exact HB.out | apply below_alloc | apply pw_below_drewN | apply below_drew1 | refine below_set ?_ GE341.out) | exact HB.out))); (case aF => exact (fun k_ hk => Kd.fresh' (Kd.R_lt (by (with_reducible repeat (first | apply Kd.R_alloc | apply Kd.R_drewN | apply Kd.R_drew)); exact HO356.out)) k_ hk)); (case aO => exact (by (with_reducible repeat (first | apply Kd.R_alloc | apply Kd.R_drewN | apply Kd.R_drew)); exact HO362.out)); (case aS => exact (below_size (by repeat (first | (with_reducible first | exact HB.out | apply below_alloc | apply pw_below_drewN | apply below_drew1 | refine below_set ?_ GE341.out) | exact HB.out)))); (case aL => have := LMc20.out; omega); intro v364 w29 ho hb hg hat; rw [← Ny363.out] at ho; have n0_ := Aside0.mk (blk_grown (g := gb341) (o := .cells #[.int .i64 a0_0, .int .i64 a0_1, .int .i64 a0_2, .int .u64 a0_3, .int .u64 a0_4, .int .u64 a0_5] 90 (0, 0)) (by (with_reducible repeat (first | refine blk_drewN ?_ _ | refine blk_drew ?_ | refine blk_alloc ?_ _)); exact BK341.out) hg (Kd.R_ne HO362.out BK341.out (by decide))); have n1_ := Aside0.mk (Kd.R_after (ok := (fun _ => True)) (by (with_reducible repeat (first | apply Kd.R_alloc | apply Kd.R_drewN | apply Kd.R_drew)); exact HO356.out) hg hat); have n2_ := Aside0.mk (hb); have n3_ := Aside0.mk (ho); clear BK341; clear HO356; clear HB; clear HO362; have BK341 := n0_; have HO356 := n1_; have HB := n2_; have HO365 := n3_; clear n0_ n1_ n2_ n3_; clear ho hb hg hat))
          go_ret
          exact ⟨_, by first | rfl | (simp [errW_none, errW_some] <;> rfl) | (simp [*, errW_none, errW_some] <;> rfl), by (with_reducible repeat (first | apply Kd.R_alloc | apply Kd.R_drewN | apply Kd.R_drew)); exact Kd.R_mono HO365.out (fun _ hk => trivial), by repeat (first | (with_reducible first | exact HB.out | apply below_alloc | apply pw_below_drewN | apply below_drew1 | refine below_set ?_ GE341.out) | exact HB.out)⟩
        · rw [if_neg c20] at H
          exact absurd H (by simp)
      · rw [if_neg c19] at H
        exact absurd H (by simp)
    · rw [if_neg c18] at H
      exact absurd H (by simp)

end Go.Proofs.YtfhcpniibiobgaaDoor.Qf
