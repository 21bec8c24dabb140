-- Written by wip/tools/myprint.py for this seat (the kit's print with changes); Lean checks it.
import Derived.Test.YtfhcpniibiobgaaDoorQfx0
import Derived.Test.YtfhcpniibiobgaaDoorQfx2
import Derived.Test.YtfhcpniibiobgaaDoorQfx6
namespace Go.Proofs.YtfhcpniibiobgaaDoor.Qf
open Go.RowKit Go.Proofs.YtfhcpniibiobgaaDoorW.PrintWords Go.Proofs.YtfhcpniibiobgaaDoorW.PrintLast Go.Proofs.YtfhcpniibiobgaaDoorW.PrintMore
attribute [local go_sem] max2_int min2_int max_two min_two max_three min_three max_four min_four
set_option linter.unusedVariables false
set_option linter.unusedSimpArgs false
def impl_fromNodes.l0 : Nat → List (S52) → List (S108) → Int → Int → Option ((List (S52)))
  | 0, _, _, _, _ => none
  | k + 1, x3, x6, x7, x8 => if x8 < x7 then (if 0 ≤ x8 then (if x8 < (x6.length : Int) then ((impl_fromNode.f ((rd_T108 x6 x8).f0) ((rd_T108 x6 x8).f1)).bind fun bt269 => (if x3.length < 8796093022208 then (impl_fromNodes.l0 k (x3 ++ [(⟨bt269.1, bt269.2⟩ : S52)]) x6 x7 (wrap64 (x8 + 1))) else (none))) else (none)) else (none)) else (some x3)
def impl_fromNodes.f (k : Nat) (l0 : List (S108)) : Option ((List (S52))) := impl_fromNodes.l0 k ([] : List (S52)) l0 (l0.length : Int) 0
theorem impl_fromNodes.mono_l : ∀ k, (∀ y0 y1 y2 y3, LeO (impl_fromNodes.l0 k y0 y1 y2 y3) (impl_fromNodes.l0 (k + 1) y0 y1 y2 y3))
  | 0 => fun _ _ _ _ r h => by simp [impl_fromNodes.l0] at h
  | k + 1 => by
    have ih0 := impl_fromNodes.mono_l k
    · intro y0 y1 y2 y3
      unfold impl_fromNodes.l0
      repeat' first
      | (with_reducible exact ih0 _ _ _ _)
      | (with_reducible exact LeO.refl _)
      | (with_reducible exact LeO.none _)
      | (with_reducible refine LeO.ite ?_ ?_)
      | (with_reducible refine LeO.bind ?_ (fun _ => ?_))
      | exact LeO.none _
      | refine LeO.ite ?_ ?_
      | refine LeO.bind ?_ (fun _ => ?_)
theorem impl_fromNodes.mono : ∀ a0 k, LeO (impl_fromNodes.f k a0) (impl_fromNodes.f (k + 1) a0) := by
  intro a0 k
  have ih0 := impl_fromNodes.mono_l k
  unfold impl_fromNodes.f
  repeat' first
      | (with_reducible exact ih0 _ _ _ _)
      | (with_reducible exact LeO.refl _)
      | (with_reducible exact LeO.none _)
      | (with_reducible refine LeO.ite ?_ ?_)
      | (with_reducible refine LeO.bind ?_ (fun _ => ?_))
      | exact LeO.none _
      | refine LeO.ite ?_ ?_
      | refine LeO.bind ?_ (fun _ => ?_)
set_option maxHeartbeats 8000000 in
set_option maxRecDepth 100000 in
theorem impl_fromNodes.calls (k : Nat) (A0 : Option Addr) (c0 : Nat) (l0 : List (S108)) (r : List (S52)) (w : World) (hr0 : Kd.C k108 w A0 l0.length l0) (hc0 : l0.length ≤ c0) (h : impl_fromNodes.f k l0 = some r) :
    Calls Tryd.prog 111 #[.slice A0 l0.length c0] w fun e w' => ∃ v0_ : Value, e = .returned (v0_) ∧ Kd.R k52 52 w' w.heap.size (fun _ => True) v0_ r ∧ Below w.heap.size w w' := by
  have hu108 := Tryd.underlying108
  have HR0 := aq hr0
  have HC0 := aq hc0
  clear hr0 hc0
  have HB := aq (Below.refl w.heap.size w)
  have H : (impl_fromNodes.l0 k ([] : List (S52)) l0 (l0.length : Int) 0) = some r := h
  clear h
  have H' := aq H
  clear H
  go_enter Tryd.func111, Tryd.ntmps111
  go_wp2
  (try simp only [Act.put, List.setIfInBounds_toArray, List.set_cons_zero, List.set_cons_succ])
  go_loopg [3, 8] k (fun kq v3 v8 w' => ∃ (x3_1 : List (S52)) (x8_1 : Int), v8 = .int .i64 x8_1 ∧ Aside0 (impl_fromNodes.l0 kq x3_1 l0 (l0.length : Int) x8_1 = some r) ∧ Aside0 (kq ≤ k) ∧ Aside0 (Kd.R k52 52 w' w.heap.size (fun _ => True) v3 x3_1) ∧ Aside0 (Below w.heap.size w w'))
  case atStart => exact ⟨(([] : List (S52))), (0), (by first | rfl | (simp; done) | (simp [*]; done)), H', ⟨Nat.le_refl _⟩, ⟨by first | exact Kd.R_nil _ _ _ _ _ | exact Kd.N_nil _ _ _ _ _ | exact Kd.V_nil _ _ _ _ _ | exact Kd.Q_nil _ _ _ _ _ | exact Kd.S_nil _ _ _ _ _⟩, ⟨by repeat (first | (with_reducible first | exact HB.out | apply below_alloc | apply pw_below_drewN | apply below_drew1) | exact HB.out)⟩⟩
  case round =>
    clear H'
    try clear c1
    obtain ⟨x3_1, x8_1, rfl, HA, HK1, HO_3, HB⟩ := hrel
    cases gk with
    | zero => exact absurd HA.out (by simp [impl_fromNodes.l0])
    | succ k1 =>
      have H := HA.out
      clear HA
      simp only [impl_fromNodes.l0] at H
      by_cases c2 : x8_1 < (l0.length : Int)
      · rw [if_pos c2] at H
        have c2b0 : decide (x8_1 < (l0.length : Int)) = true := decide_eq_true c2
        clear c2
        by_cases c3 : 0 ≤ x8_1
        · rw [if_pos c3] at H
          have c3b0 : decide (0 ≤ x8_1) = true := decide_eq_true c3
          clear c3
          by_cases c4 : x8_1 < (l0.length : Int)
          · rw [if_pos c4] at H
            have c4b0 : decide (x8_1 < (l0.length : Int)) = true := decide_eq_true c4
            clear c4
            replace H := Option.bind_eq_some_iff.mp H
            obtain ⟨⟨t269, t270⟩, A50, H⟩ := H
            have A5 := aq A50
            clear A50
            by_cases c6 : x3_1.length < 8796093022208
            · rw [if_pos c6] at H
              have LMc6 := aq c6
              clear c6
              obtain ⟨y271, hy271⟩ : ∃ y_ : List (S52), y_ = (x3_1 ++ [(⟨t269, t270⟩ : S52)]) := ⟨_, rfl⟩
              replace H : (impl_fromNodes.l0 k1 y271 l0 (l0.length : Int) (wrap64 (x8_1 + 1))) = some r := by first | (rw [hy271]; with_reducible exact H) | (have H2_ := (Option.bind_some _ _).symm.trans H; rw [hy271]; with_reducible exact H2_) | (have H2_ := (Option.bind_some _ _).symm.trans H; with_reducible exact H2_) | with_reducible exact H | (rw [hy271]; exact H) | exact H
              have Ny271 := aq hy271
              clear hy271
              have H' := aq H
              clear H
              have p267 : 0 ≤ (x8_1 : Int) := of_decide_eq_true (by first | (with_reducible assumption) | assumption)
              have q267 : x8_1 < (l0.length : Int) := of_decide_eq_true (by first | (with_reducible assumption) | assumption)
              obtain ⟨ad267, e267, hx267_0, hx267_1⟩ := at_T108 HR0.out x8_1 p267 q267
              cases e267
              (try replace hx267_0 := (HB.out.cell (World.block_lt_of_cell? w _ hx267_0)).trans hx267_0)
              (try replace hx267_1 := (HB.out.cell (World.block_lt_of_cell? w _ hx267_1)).trans hx267_1)
              replace p267 := eq_true p267
              replace q267 := eq_true q267
              go_wp2_with (first | ((with_reducible refine gate_dst (N := 5) rfl ?_); refine be 5 #[.int .u64 0, .int .u64 0] 108 ?_; intro gb268 hg w7 hbox hb; have BK268 := aq (hbox); have GW268 := aq ((by rw [hg]; exact (below_size (bw HB)) : w.heap.size ≤ gb268)); have GE268 := aq ((by rw [hg]; exact (below_size (bw HB)) : w.heap.size ≤ gb268)); replace HO_3 := aq (Kd.R_below (rq HO_3) hb); replace HB := aq (below_step (bw HB) hb); clear hb hbox hg; have hcz8_0 : w7.cell? ⟨gb268, 0, none⟩ = some (.int .u64 0) := bc BK268 0; have hcz8_1 : w7.cell? ⟨gb268, 1, none⟩ = some (.int .u64 0) := bc BK268 1; have hfz8_0 := bz BK268 0; have hfz8_1 := bz BK268 1) | ((with_reducible refine gate_callee (f := 57) rfl ?_); refine gL 14 Tryd.func57 #[.agg #[.int .u64 ((rd_T108 l0 x8_1).f0), .int .u64 ((rd_T108 l0 x8_1).f1)]] ?_; (with_reducible refine (impl_fromNode.calls ((rd_T108 l0 x8_1).f0) ((rd_T108 l0 x8_1).f1) t269 t270 _ A5.out).mono ?_); rintro e w9 ⟨rfl, hb⟩; refine ⟨_, rfl, ?_⟩; replace HO_3 := aq (Kd.R_below (by (with_reducible repeat (first | apply Kd.R_alloc | apply Kd.R_drewN | apply Kd.R_drew)); exact (Kd.R_mono (Kd.R_far (p := ⟨gb268, 1, none⟩) (Kd.R_far (p := ⟨gb268, 0, none⟩) (Kd.R_types HO_3.out BK268.out (by decide)) (fun _ hk => hk.2) (.int .u64 ((rd_T108 l0 x8_1).f0))) (fun _ hk => hk.2) (.int .u64 ((rd_T108 l0 x8_1).f1))) (fun _ h_ => h_.1))) hb); replace BK268 := aq (blk_below (g := gb268) (o := .cells #[.int .u64 ((rd_T108 l0 x8_1).f0), .int .u64 ((rd_T108 l0 x8_1).f1)] 108 (0, 0)) (by (with_reducible repeat (first | refine blk_drewN ?_ _ | refine blk_drew ?_ | refine blk_alloc ?_ _)); refine blk_put (cs := #[.int .u64 ((rd_T108 l0 x8_1).f0), .int .u64 0]) ?_ 1 _ rfl; (with_reducible repeat (first | refine blk_drewN ?_ _ | refine blk_drew ?_ | refine blk_alloc ?_ _)); refine blk_put (cs := #[.int .u64 0, .int .u64 0]) ?_ 0 _ rfl; (with_reducible repeat (first | refine blk_drewN ?_ _ | refine blk_drew ?_ | refine blk_alloc ?_ _)); exact BK268.out) hb); replace HB := aq (below_step (bw HB) hb); (try clear hb); (try clear hk)) | ((with_reducible refine gate_builtin (b := .append) (xs := #[.tmp 12, .tmp 15]) rfl ?_); at_builtin; refine Kd.R_append k52 (w0 := w) w.heap.size rfl (.tmp 12) (.tmp 15) 77 52 (.agg #[(.int .u64 0), (.int .u64 0)]) 16 rfl Tryd.underlying77 info52 rfl (by decide) (by omega) u3 x3_1 (⟨t269, t270⟩ : S52) [.int .u64 t269, .int .u64 t270] (fun _ => True) (fun _ => False) rfl rfl ?aP (fun _ hk => hk.elim) ?aF ?aO ?aB ?aS ?aL ?_; (case aP => exact k52_mkM _ _ _ (⟨t269, t270⟩ : S52)); (case aB => exact (bw HB)); (case aF => exact (fun _ _ => trivial)); (case aO => exact (rq HO_3)); (case aS => exact (below_size (bw HB))); (case aL => have := LMc6.out; omega); intro v272 w10 ho hb hg hat; rw [← Ny271.out] at ho; have HO273 := aq (ho); replace BK268 := aq (blk_grown (g := gb268) (o := .cells #[.int .u64 ((rd_T108 l0 x8_1).f0), .int .u64 ((rd_T108 l0 x8_1).f1)] 108 (0, 0)) (bq BK268) hg (Kd.R_ne HO_3.out BK268.out (by decide))); replace HB := aq (hb); clear HO_3; clear ho hb hg hat))
              go_roundg k1
              case measure => have := HK1.out; omega
              case rel => exact ⟨(y271), (wrap64 (x8_1 + 1)), (by first | rfl | (simp; done) | (simp [*]; done)), H', ⟨by have := HK1.out; omega⟩, ⟨by (with_reducible repeat (first | apply Kd.R_alloc | apply Kd.R_drewN | apply Kd.R_drew)); exact HO273.out⟩, ⟨by repeat (first | (with_reducible first | exact HB.out | apply below_alloc | apply pw_below_drewN | apply below_drew1 | refine below_set ?_ GE268.out) | exact HB.out)⟩⟩
            · rw [if_neg c6] at H
              exact absurd H (by simp)
          · rw [if_neg c4] at H
            exact absurd H (by simp)
        · rw [if_neg c3] at H
          exact absurd H (by simp)
      · rw [if_neg c2] at H
        have c2b0 : decide (x8_1 < (l0.length : Int)) = false := decide_eq_false c2
        clear c2
        obtain rfl := Option.some.inj H
        go_wp2
        go_ret
        exact ⟨_, by first | rfl | (simp [errW_none, errW_some] <;> rfl) | (simp [*, errW_none, errW_some] <;> rfl), by (with_reducible repeat (first | apply Kd.R_alloc | apply Kd.R_drewN | apply Kd.R_drew)); exact HO_3.out, by repeat (first | (with_reducible first | exact HB.out | apply below_alloc | apply pw_below_drewN | apply below_drew1) | exact HB.out)⟩
def impl_fromProof.f (k : Nat) (l0_0 : List (S108)) (a0_1 : Int) (a0_2 : Int) (a0_3 : Int) (a0_4 : Int) : Option ((List (S52)) × Int × Int × Int × Int) := (proof_Nodes_Ephem.f l0_0 a0_1 a0_2 a0_3 a0_4).bind fun bt276 => ((impl_fromNodes.f k l0_0).bind fun t281 => ((impl_fromNode.f bt276.1 bt276.2.1).bind fun bt284 => (some (t281, bt284.1, bt284.2, bt276.2.2.1, bt276.2.2.2))))
def impl_fromProof.T2 : Bool × List (List Nat × List Nat) := (true, [([], []), ([0], [0]), ([1], [1]), ([], []), ([3, 2], [3]), ([], []), ([], []), ([2, 4, 5, 6], [2, 4, 5, 6]), ([7, 4, 0, 1, 2, 3, 4, 5, 6, 7], [7])])
def impl_fromProof.B2 : List Nat := [0, 1, 3, 0, 15, 0, 0, 127, 255]
theorem impl_fromProof.tab2 : rtab .any (opsOf Tryd.f80 2) = impl_fromProof.T2 := by kernel_rfl
theorem impl_fromProof.bits2 : waitsOk impl_fromProof.T2.2 impl_fromProof.B2 = true := by kernel_rfl
set_option maxHeartbeats 8000000 in
set_option maxRecDepth 100000 in
theorem impl_fromProof.calls (k : Nat) (A0_0 : Option Addr) (c0_0 : Nat) (l0_0 : List (S108)) (a0_1 : Int) (a0_2 : Int) (a0_3 : Int) (a0_4 : Int) (r1 : List (S52)) (r2 : Int) (r3 : Int) (r4 : Int) (r5 : Int) (w : World) (hr0_0 : Kd.C k108 w A0_0 l0_0.length l0_0) (hc0_0 : l0_0.length ≤ c0_0) (h : impl_fromProof.f k l0_0 a0_1 a0_2 a0_3 a0_4 = some (r1, r2, r3, r4, r5)) :
    Calls Tryd.prog 80 #[.agg #[.slice A0_0 l0_0.length c0_0, .int .i64 a0_1, .int .i64 a0_2, .int .u64 a0_3, .int .u64 a0_4]] w fun e w' => ∃ v0_ : Value, e = .returned (.agg #[v0_, .int .u64 r2, .int .u64 r3, .int .i64 r4, .int .i64 r5]) ∧ Kd.R k52 52 w' w.heap.size (fun _ => True) v0_ r1 ∧ Below w.heap.size w w' := by
  have hu132 := Tryd.underlying132
  have hu79 := Tryd.underlying79
  have hu108 := Tryd.underlying108
  have HR0_0 := aq hr0_0
  have HC0_0 := aq hc0_0
  clear hr0_0 hc0_0
  have HB := aq (Below.refl w.heap.size w)
  have H : ((proof_Nodes_Ephem.f l0_0 a0_1 a0_2 a0_3 a0_4).bind fun bt276 => ((impl_fromNodes.f k l0_0).bind fun t281 => ((impl_fromNode.f bt276.1 bt276.2.1).bind fun bt284 => (some (t281, bt284.1, bt284.2, bt276.2.2.1, bt276.2.2.2))))) = some (r1, r2, r3, r4, r5) := h
  clear h
  replace H := Option.bind_eq_some_iff.mp H
  obtain ⟨⟨t276, t277, t278, t279⟩, A20, H⟩ := H
  have A2 := aq A20
  clear A20
  replace H := Option.bind_eq_some_iff.mp H
  obtain ⟨t281, A30, H⟩ := H
  have A3 := aq A30
  clear A30
  replace H := Option.bind_eq_some_iff.mp H
  obtain ⟨⟨t284, t285⟩, A40, H⟩ := H
  have A4 := aq A40
  clear A40
  simp only [Option.some.injEq, Prod.mk.injEq] at H
  obtain ⟨rfl, rfl, rfl, rfl, rfl⟩ := H
  go_enter Tryd.func80, Tryd.ntmps80
  try go_wp2_with (first | ((with_reducible refine gate_dst (N := 1) rfl ?_); refine be 1 #[.slice A0_0 l0_0.length c0_0, .int .i64 a0_1, .int .i64 a0_2, .int .u64 a0_3, .int .u64 a0_4] 132 ?_; intro gb274 hg w5 hbox hb; have BK274 := aq (hbox); have GW274 := aq ((by rw [hg]; exact (below_size (bw HB)) : w.heap.size ≤ gb274)); have GE274 := aq ((by rw [hg]; exact (below_size (bw HB)) : w.heap.size ≤ gb274)); replace HB := aq (below_step (bw HB) hb); clear hb hbox hg) | ((with_reducible refine gate_dst (N := 2) rfl ?_); refine be 2 #[.slice none 0 0, .int .u64 0, .int .u64 0, .int .i64 0, .int .i64 0] 79 ?_; intro gb275 hg w6 hbox hb; have BK275 := aq (hbox); have GW275 := aq ((by rw [hg]; exact (below_size (bw HB)) : w.heap.size ≤ gb275)); have GE275 := aq ((by rw [hg]; exact (below_size (bw HB)) : w.heap.size ≤ gb275)); have NB274_275 := aq ((by rw [hg]; exact Nat.ne_of_lt (blk_lt (g := gb274) (o := .cells #[.slice A0_0 l0_0.length c0_0, .int .i64 a0_1, .int .i64 a0_2, .int .u64 a0_3, .int .u64 a0_4] 132 (0, 0)) (bq BK274)) : gb274 ≠ gb275)); have NB275_274 := aq ((by rw [hg]; exact Nat.ne_of_gt (blk_lt (g := gb274) (o := .cells #[.slice A0_0 l0_0.length c0_0, .int .i64 a0_1, .int .i64 a0_2, .int .u64 a0_3, .int .u64 a0_4] 132 (0, 0)) (bq BK274)) : gb275 ≠ gb274)); replace BK274 := aq (blk_below (bq BK274) hb); replace HB := aq (below_step (bw HB) hb); clear hb hbox hg; have hnb7 := NB274_275.out; have hnc7 := NB275_274.out; have hcz8_0 : w6.cell? ⟨gb274, 0, none⟩ = some (.slice A0_0 l0_0.length c0_0) := bc BK274 0; have hcz8_1 : w6.cell? ⟨gb274, 1, none⟩ = some (.int .i64 a0_1) := bc BK274 1; have hcz8_2 : w6.cell? ⟨gb274, 2, none⟩ = some (.int .i64 a0_2) := bc BK274 2; have hcz8_3 : w6.cell? ⟨gb274, 3, none⟩ = some (.int .u64 a0_3) := bc BK274 3; have hcz8_4 : w6.cell? ⟨gb274, 4, none⟩ = some (.int .u64 a0_4) := bc BK274 4; have hfz8_0 := bz BK274 0; have hfz8_1 := bz BK274 1; have hfz8_2 := bz BK274 2; have hfz8_3 := bz BK274 3; have hfz8_4 := bz BK274 4) | ((with_reducible refine gate_callee (f := 110) rfl ?_); refine gL 8 Tryd.func110 #[.agg #[.slice A0_0 l0_0.length c0_0, .int .i64 a0_1, .int .i64 a0_2, .int .u64 a0_3, .int .u64 a0_4]] ?_; (with_reducible refine (proof_Nodes_Ephem.calls _ _ l0_0 a0_1 a0_2 a0_3 a0_4 t276 t277 t278 t279 _ ?side1 ?side2 A2.out).mono ?_); (case side1 => repeat (first | exact (Kd.C_below HR0_0.out HB.out) | (with_reducible refine Kd.C_alloc ?_ _) | (with_reducible refine Kd.C_drewN ?_ _) | (with_reducible refine Kd.C_drew ?_))); (case side2 => exact HC0_0.out); rintro e w9 ⟨rfl, hb⟩; refine ⟨_, rfl, ?_⟩; replace BK274 := aq (blk_below (bq BK274) hb); replace BK275 := aq (blk_below (bq BK275) hb); replace HB := aq (below_step (bw HB) hb); (try clear hb); (try clear hk)) | ((with_reducible refine gate_dst (N := 3) rfl ?_); refine be 3 #[.int .u64 0, .int .u64 0] 108 ?_; intro gb280 hg w10 hbox hb; have BK280 := aq (hbox); have GW280 := aq ((by rw [hg]; exact (below_size (bw HB)) : w.heap.size ≤ gb280)); have GE280 := aq ((by rw [hg]; exact (below_size (bw HB)) : w.heap.size ≤ gb280)); have NB274_280 := aq ((by rw [hg]; exact Nat.ne_of_lt (blk_lt (g := gb274) (o := .cells #[.slice A0_0 l0_0.length c0_0, .int .i64 a0_1, .int .i64 a0_2, .int .u64 a0_3, .int .u64 a0_4] 132 (0, 0)) (bq BK274)) : gb274 ≠ gb280)); have NB280_274 := aq ((by rw [hg]; exact Nat.ne_of_gt (blk_lt (g := gb274) (o := .cells #[.slice A0_0 l0_0.length c0_0, .int .i64 a0_1, .int .i64 a0_2, .int .u64 a0_3, .int .u64 a0_4] 132 (0, 0)) (bq BK274)) : gb280 ≠ gb274)); have NB275_280 := aq ((by rw [hg]; exact Nat.ne_of_lt (blk_lt (g := gb275) (o := .cells #[.slice none 0 0, .int .u64 0, .int .u64 0, .int .i64 0, .int .i64 0] 79 (0, 0)) (bq BK275)) : gb275 ≠ gb280)); have NB280_275 := aq ((by rw [hg]; exact Nat.ne_of_gt (blk_lt (g := gb275) (o := .cells #[.slice none 0 0, .int .u64 0, .int .u64 0, .int .i64 0, .int .i64 0] 79 (0, 0)) (bq BK275)) : gb280 ≠ gb275)); replace BK274 := aq (blk_below (bq BK274) hb); replace BK275 := aq (blk_below (bq BK275) hb); replace HB := aq (below_step (bw HB) hb); clear hb hbox hg; have hnb11 := NB280_274.out; have hnc11 := NB274_280.out; have hnb12 := NB280_275.out; have hnc12 := NB275_280.out; have hcz13_0 : w10.cell? ⟨gb280, 0, none⟩ = some (.int .u64 0) := bc BK280 0; have hcz13_1 : w10.cell? ⟨gb280, 1, none⟩ = some (.int .u64 0) := bc BK280 1; have hfz13_0 := bz BK280 0; have hfz13_1 := bz BK280 1))
  have n0_ : Aside0 (((w10.setCell ⟨gb280, 0, none⟩ (.int .u64 t276)).setCell ⟨gb280, 1, none⟩ (.int .u64 t277)).heap[gb274]? = some (.cells #[.slice A0_0 l0_0.length c0_0, .int .i64 a0_1, .int .i64 a0_2, .int .u64 a0_3, .int .u64 a0_4] 132 (0, 0))) := ⟨by (with_reducible repeat (first | refine blk_drewN ?_ _ | refine blk_drew ?_ | refine blk_alloc ?_ _)); refine blk_far ?_ NB274_280.out _; (with_reducible repeat (first | refine blk_drewN ?_ _ | refine blk_drew ?_ | refine blk_alloc ?_ _)); refine blk_far ?_ NB274_280.out _; (with_reducible repeat (first | refine blk_drewN ?_ _ | refine blk_drew ?_ | refine blk_alloc ?_ _)); exact BK274.out⟩
  have n1_ : Aside0 (((w10.setCell ⟨gb280, 0, none⟩ (.int .u64 t276)).setCell ⟨gb280, 1, none⟩ (.int .u64 t277)).heap[gb275]? = some (.cells #[.slice none 0 0, .int .u64 0, .int .u64 0, .int .i64 0, .int .i64 0] 79 (0, 0))) := ⟨by (with_reducible repeat (first | refine blk_drewN ?_ _ | refine blk_drew ?_ | refine blk_alloc ?_ _)); refine blk_far ?_ NB275_280.out _; (with_reducible repeat (first | refine blk_drewN ?_ _ | refine blk_drew ?_ | refine blk_alloc ?_ _)); refine blk_far ?_ NB275_280.out _; (with_reducible repeat (first | refine blk_drewN ?_ _ | refine blk_drew ?_ | refine blk_alloc ?_ _)); exact BK275.out⟩
  have n2_ : Aside0 (((w10.setCell ⟨gb280, 0, none⟩ (.int .u64 t276)).setCell ⟨gb280, 1, none⟩ (.int .u64 t277)).heap[gb280]? = some (.cells #[.int .u64 t276, .int .u64 t277] 108 (0, 0))) := ⟨by (with_reducible repeat (first | refine blk_drewN ?_ _ | refine blk_drew ?_ | refine blk_alloc ?_ _)); refine blk_put (cs := #[.int .u64 t276, .int .u64 0]) ?_ 1 _ rfl; (with_reducible repeat (first | refine blk_drewN ?_ _ | refine blk_drew ?_ | refine blk_alloc ?_ _)); refine blk_put (cs := #[.int .u64 0, .int .u64 0]) ?_ 0 _ rfl; (with_reducible repeat (first | refine blk_drewN ?_ _ | refine blk_drew ?_ | refine blk_alloc ?_ _)); exact BK280.out⟩
  have n3_ : Aside0 (Below w.heap.size w ((w10.setCell ⟨gb280, 0, none⟩ (.int .u64 t276)).setCell ⟨gb280, 1, none⟩ (.int .u64 t277))) := ⟨by repeat (first | (with_reducible first | exact HB.out | apply below_alloc | apply pw_below_drewN | apply below_drew1 | refine below_set ?_ GE274.out | refine below_set ?_ GE275.out | refine below_set ?_ GE280.out) | exact HB.out)⟩
  (try clear BK274)
  (try clear BK275)
  (try clear BK280)
  (try clear HB)
  generalize ((w10.setCell ⟨gb280, 0, none⟩ (.int .u64 t276)).setCell ⟨gb280, 1, none⟩ (.int .u64 t277)) = w14 at n0_ n1_ n2_ n3_ ⊢
  have BK274 := n0_
  have BK275 := n1_
  have BK280 := n2_
  have HB := n3_
  clear n0_ n1_ n2_ n3_
  replace BK274 := aq (blk_drew BK274.out)
  replace BK275 := aq (blk_drew BK275.out)
  replace BK280 := aq (blk_drew BK280.out)
  replace HB := aq (below_drew1 HB.out)
  refine start_ (n := 9) (S := fun w' => w'.cell? ⟨gb274, 0, none⟩ = some (.slice A0_0 l0_0.length c0_0) ∧ w'.cell? ⟨gb274, 1, none⟩ = some (.int .i64 a0_1) ∧ w'.cell? ⟨gb274, 2, none⟩ = some (.int .i64 a0_2) ∧ w'.cell? ⟨gb274, 3, none⟩ = some (.int .u64 a0_3) ∧ w'.cell? ⟨gb274, 4, none⟩ = some (.int .u64 a0_4) ∧ w'.cell? ⟨gb280, 0, none⟩ = some (.int .u64 t276) ∧ w'.cell? ⟨gb280, 1, none⟩ = some (.int .u64 t277)) (ds := []) #[false, false, false, false, false, false, false, false, false] (by kernel_rfl) rfl rfl ⟨bc BK274 0, bc BK274 1, bc BK274 2, bc BK274 3, bc BK274 4, bc BK280 0, bc BK280 1⟩ (fun hHeld => ?_); refine with_tabW impl_fromProof.tab2 impl_fromProof.bits2 (fun HT_ HW_ => ?_)
  generalize w14.drew = w15 at BK274 BK275 BK280 HB hHeld ⊢
  refine pv 0 12 HT_ ?_
  refine pv 5 17 HT_ ?_
  refine pv 6 18 HT_ ?_
  refine tv 1 13 HT_ HW_ hHeld ?_
  refine tv 3 15 HT_ HW_ hHeld ?_
  refine ov1 2 14 HT_ fun K hK => ?_
  refine gS Tryd.func111 #[.slice A0_0 l0_0.length c0_0] ?_
  with_reducible refine (impl_fromNodes.calls k _ _ l0_0 t281 _ ?side1 ?side2 A3.out).mono ?_
  (case side1 => repeat (first | exact (Kd.C_below HR0_0.out HB.out) | (with_reducible refine Kd.C_alloc ?_ _) | (with_reducible refine Kd.C_drewN ?_ _) | (with_reducible refine Kd.C_drew ?_)))
  (case side2 => exact HC0_0.out)
  rintro e w16 ⟨v282, rfl, ho0, hb⟩
  refine ⟨_, rfl, ?_⟩
  have HO283 := aq (Kd.R_lower ho0 (below_size (bw HB)))
  replace BK274 := aq (blk_below (bq BK274) hb)
  replace BK275 := aq (blk_below (bq BK275) hb)
  replace BK280 := aq (blk_below (bq BK280) hb)
  replace HB := aq (below_step (bw HB) hb)
  (try clear hb)
  (try clear hk)
  (try clear ho0)
  refine hK.out _ _ ⟨bc BK274 0, bc BK274 1, bc BK274 2, bc BK274 3, bc BK274 4, bc BK280 0, bc BK280 1⟩ (fun hHeld => ?_)
  clear hK K
  refine nv ?_
  refine ov1 4 16 HT_ fun K hK => ?_
  refine gS Tryd.func57 #[.agg #[.int .u64 t276, .int .u64 t277]] ?_
  with_reducible refine (impl_fromNode.calls t276 t277 t284 t285 _ A4.out).mono ?_
  rintro e w17 ⟨rfl, hb⟩
  refine ⟨_, rfl, ?_⟩
  replace HO283 := aq (Kd.R_below (rq HO283) hb)
  replace BK274 := aq (blk_below (bq BK274) hb)
  replace BK275 := aq (blk_below (bq BK275) hb)
  replace BK280 := aq (blk_below (bq BK280) hb)
  replace HB := aq (below_step (bw HB) hb)
  (try clear hb)
  (try clear hk)
  obtain ⟨Ao18, co18, eo18⟩ := Kd.R_slice HO283.out
  (first | subst eo18 | (injection eo18 with f1_ f2_ f3_; have f4_ := f1_.symm; have f5_ := f3_.symm; clear f1_ f2_ f3_; subst f4_; subst f5_))
  refine hK.out _ _ ⟨bc BK274 0, bc BK274 1, bc BK274 2, bc BK274 3, bc BK274 4, bc BK280 0, bc BK280 1⟩ (fun hHeld => ?_)
  clear hK K
  refine nv ?_
  refine pv 7 19 HT_ ?_
  refine one_ (i := 8) (N := none) #[true, true, true, true, true, true, true, true, true] rfl rfl (one_of HT_.out (by kernel_rfl)) (by decide) (fun K hK => ?_)
  have hs19 : w17.cell? ⟨gb275, 0, none⟩ = some (.slice none 0 0) := bc BK275 0
  have hfs19 := bz BK275 0
  have hns19_0 := NB274_275.out
  have hns19_2 := NB280_275.out
  have hms19_0 := NB275_274.out
  have hms19_2 := NB275_280.out
  have hs20 : w17.cell? ⟨gb275, 1, none⟩ = some (.int .u64 0) := bc BK275 1
  have hfs20 := bz BK275 1
  have hns20_0 := NB274_275.out
  have hns20_2 := NB280_275.out
  have hms20_0 := NB275_274.out
  have hms20_2 := NB275_280.out
  have hs21 : w17.cell? ⟨gb275, 2, none⟩ = some (.int .u64 0) := bc BK275 2
  have hfs21 := bz BK275 2
  have hns21_0 := NB274_275.out
  have hns21_2 := NB280_275.out
  have hms21_0 := NB275_274.out
  have hms21_2 := NB275_280.out
  have hs22 : w17.cell? ⟨gb275, 3, none⟩ = some (.int .i64 0) := bc BK275 3
  have hfs22 := bz BK275 3
  have hns22_0 := NB274_275.out
  have hns22_2 := NB280_275.out
  have hms22_0 := NB275_274.out
  have hms22_2 := NB275_280.out
  have hs23 : w17.cell? ⟨gb275, 4, none⟩ = some (.int .i64 0) := bc BK275 4
  have hfs23 := bz BK275 4
  have hns23_0 := NB274_275.out
  have hns23_2 := NB280_275.out
  have hms23_0 := NB275_274.out
  have hms23_2 := NB275_280.out
  refine skip_ (w1 := ?_) (by rfl) rfl ?_ ?_
  rotate_left
  · go_simp
    rfl
  refine hK.out _ _ ⟨((cell_far (p := ⟨gb275, _, none⟩) NB274_275.out _).trans (((cell_far (p := ⟨gb275, _, none⟩) NB274_275.out _).trans (((cell_far (p := ⟨gb275, _, none⟩) NB274_275.out _).trans (((cell_far (p := ⟨gb275, _, none⟩) NB274_275.out _).trans (((cell_far (p := ⟨gb275, _, none⟩) NB274_275.out _).trans (hHeld.1)))))))))), ((cell_far (p := ⟨gb275, _, none⟩) NB274_275.out _).trans (((cell_far (p := ⟨gb275, _, none⟩) NB274_275.out _).trans (((cell_far (p := ⟨gb275, _, none⟩) NB274_275.out _).trans (((cell_far (p := ⟨gb275, _, none⟩) NB274_275.out _).trans (((cell_far (p := ⟨gb275, _, none⟩) NB274_275.out _).trans (hHeld.2.1)))))))))), ((cell_far (p := ⟨gb275, _, none⟩) NB274_275.out _).trans (((cell_far (p := ⟨gb275, _, none⟩) NB274_275.out _).trans (((cell_far (p := ⟨gb275, _, none⟩) NB274_275.out _).trans (((cell_far (p := ⟨gb275, _, none⟩) NB274_275.out _).trans (((cell_far (p := ⟨gb275, _, none⟩) NB274_275.out _).trans (hHeld.2.2.1)))))))))), ((cell_far (p := ⟨gb275, _, none⟩) NB274_275.out _).trans (((cell_far (p := ⟨gb275, _, none⟩) NB274_275.out _).trans (((cell_far (p := ⟨gb275, _, none⟩) NB274_275.out _).trans (((cell_far (p := ⟨gb275, _, none⟩) NB274_275.out _).trans (((cell_far (p := ⟨gb275, _, none⟩) NB274_275.out _).trans (hHeld.2.2.2.1)))))))))), ((cell_far (p := ⟨gb275, _, none⟩) NB274_275.out _).trans (((cell_far (p := ⟨gb275, _, none⟩) NB274_275.out _).trans (((cell_far (p := ⟨gb275, _, none⟩) NB274_275.out _).trans (((cell_far (p := ⟨gb275, _, none⟩) NB274_275.out _).trans (((cell_far (p := ⟨gb275, _, none⟩) NB274_275.out _).trans (hHeld.2.2.2.2.1)))))))))), ((cell_far (p := ⟨gb275, _, none⟩) NB280_275.out _).trans (((cell_far (p := ⟨gb275, _, none⟩) NB280_275.out _).trans (((cell_far (p := ⟨gb275, _, none⟩) NB280_275.out _).trans (((cell_far (p := ⟨gb275, _, none⟩) NB280_275.out _).trans (((cell_far (p := ⟨gb275, _, none⟩) NB280_275.out _).trans (hHeld.2.2.2.2.2.1)))))))))), ((cell_far (p := ⟨gb275, _, none⟩) NB280_275.out _).trans (((cell_far (p := ⟨gb275, _, none⟩) NB280_275.out _).trans (((cell_far (p := ⟨gb275, _, none⟩) NB280_275.out _).trans (((cell_far (p := ⟨gb275, _, none⟩) NB280_275.out _).trans (((cell_far (p := ⟨gb275, _, none⟩) NB280_275.out _).trans (hHeld.2.2.2.2.2.2))))))))))⟩ (fun hHeld => ?_)
  clear hK K
  refine done_ (done_of HT_.out (by kernel_rfl)) ?_
  try go_wp2
  refine bodyPost_ret (results_cell_row rfl _ _ gb275 79 #[.slice Ao18 t281.length co18, .int .u64 t284, .int .u64 t285, .int .i64 t278, .int .i64 t279] (0, 0) _ rfl (by (with_reducible repeat (first | refine blk_drewN ?_ _ | refine blk_drew ?_ | refine blk_alloc ?_ _)); refine blk_put (cs := #[.slice Ao18 t281.length co18, .int .u64 t284, .int .u64 t285, .int .i64 t278, .int .i64 0]) ?_ 4 _ rfl; (with_reducible repeat (first | refine blk_drewN ?_ _ | refine blk_drew ?_ | refine blk_alloc ?_ _)); refine blk_put (cs := #[.slice Ao18 t281.length co18, .int .u64 t284, .int .u64 t285, .int .i64 0, .int .i64 0]) ?_ 3 _ rfl; (with_reducible repeat (first | refine blk_drewN ?_ _ | refine blk_drew ?_ | refine blk_alloc ?_ _)); refine blk_put (cs := #[.slice Ao18 t281.length co18, .int .u64 t284, .int .u64 0, .int .i64 0, .int .i64 0]) ?_ 2 _ rfl; (with_reducible repeat (first | refine blk_drewN ?_ _ | refine blk_drew ?_ | refine blk_alloc ?_ _)); refine blk_put (cs := #[.slice Ao18 t281.length co18, .int .u64 0, .int .u64 0, .int .i64 0, .int .i64 0]) ?_ 1 _ rfl; (with_reducible repeat (first | refine blk_drewN ?_ _ | refine blk_drew ?_ | refine blk_alloc ?_ _)); refine blk_put (cs := #[.slice none 0 0, .int .u64 0, .int .u64 0, .int .i64 0, .int .i64 0]) ?_ 0 _ rfl; (with_reducible repeat (first | refine blk_drewN ?_ _ | refine blk_drew ?_ | refine blk_alloc ?_ _)); exact BK275.out) Tryd.underlying79 rfl (by kernel_rfl)) rfl ?_
  exact ⟨_, by first | rfl | (simp [errW_none, errW_some] <;> rfl) | (simp [*, errW_none, errW_some] <;> rfl), by (with_reducible repeat (first | apply Kd.R_alloc | apply Kd.R_drewN | apply Kd.R_drew)); exact Kd.R_mono (Kd.R_far (p := ⟨gb275, 4, none⟩) (Kd.R_far (p := ⟨gb275, 3, none⟩) (Kd.R_far (p := ⟨gb275, 2, none⟩) (Kd.R_far (p := ⟨gb275, 1, none⟩) (Kd.R_far (p := ⟨gb275, 0, none⟩) (Kd.R_types HO283.out BK275.out (by decide)) (fun _ hk => hk.2) (.slice Ao18 t281.length co18)) (fun _ hk => hk.2) (.int .u64 t284)) (fun _ hk => hk.2) (.int .u64 t285)) (fun _ hk => hk.2) (.int .i64 t278)) (fun _ hk => hk.2) (.int .i64 t279)) (fun _ hk => trivial), by repeat (first | (with_reducible first | exact HB.out | apply below_alloc | apply pw_below_drewN | apply below_drew1 | refine below_set ?_ GE274.out | refine below_set ?_ GE275.out | refine below_set ?_ GE280.out) | exact HB.out)⟩
def impl_Inclusion0.f (k : Nat) (a0 : Int) (a1 : Int) : Option ((List (S52)) × Int × Int × Int × Int × Bool) := (proof_Inclusion.f k a0 a1).bind fun bt287 => (if bt287.2.2.2.2.2.isNone = true then ((impl_fromProof.f k bt287.1 bt287.2.1 bt287.2.2.1 bt287.2.2.2.1 bt287.2.2.2.2.1).bind fun bt297 => (some (bt297.1, bt297.2.1, bt297.2.2.1, bt297.2.2.2.1, bt297.2.2.2.2, true))) else (some (([] : List (S52)), 0, 0, 0, 0, false)))
set_option maxHeartbeats 8000000 in
set_option maxRecDepth 100000 in
theorem impl_Inclusion0.calls (k : Nat) (a0 : Int) (a1 : Int) (r1 : List (S52)) (r2 : Int) (r3 : Int) (r4 : Int) (r5 : Int) (r6 : Bool) (w : World) (HG_ : Glob w) (h : impl_Inclusion0.f k a0 a1 = some (r1, r2, r3, r4, r5, r6)) :
    Calls Tryd.prog 42 #[.int .u64 a0, .int .u64 a1] w fun e w' => ∃ v0_ : Value, e = .returned (.tuple #[.agg #[v0_, .int .u64 r2, .int .u64 r3, .int .i64 r4, .int .i64 r5], .bool r6]) ∧ Kd.R k52 52 w' w.heap.size (fun _ => True) v0_ r1 ∧ Below w.heap.size w w' := by
  have hu79 := Tryd.underlying79
  have hu132 := Tryd.underlying132
  have hu103 := Tryd.underlying103
  have HG := aq HG_
  clear HG_
  have HB := aq (Below.refl w.heap.size w)
  have H : ((proof_Inclusion.f k a0 a1).bind fun bt287 => (if bt287.2.2.2.2.2.isNone = true then ((impl_fromProof.f k bt287.1 bt287.2.1 bt287.2.2.1 bt287.2.2.2.1 bt287.2.2.2.2.1).bind fun bt297 => (some (bt297.1, bt297.2.1, bt297.2.2.1, bt297.2.2.2.1, bt297.2.2.2.2, true))) else (some (([] : List (S52)), 0, 0, 0, 0, false)))) = some (r1, r2, r3, r4, r5, r6) := h
  clear h
  replace H := Option.bind_eq_some_iff.mp H
  obtain ⟨⟨t287, t290, t291, t292, t293, t294⟩, A30, H⟩ := H
  have A3 := aq A30
  clear A30
  rcases t294 with _ | q296
  · have H1 : ((impl_fromProof.f k t287 t290 t291 t292 t293).bind fun bt297 => (some (bt297.1, bt297.2.1, bt297.2.2.1, bt297.2.2.2.1, bt297.2.2.2.2, true))) = some (r1, r2, r3, r4, r5, r6) := by rw [if_pos (show (none : Option Int).isNone = true by rfl)] at H; exact H
    clear H
    have H := H1
    clear H1
    try simp only [errW_none, errW_some]
    replace H := Option.bind_eq_some_iff.mp H
    obtain ⟨⟨t297, t300, t301, t302, t303⟩, A40, H⟩ := H
    have A4 := aq A40
    clear A40
    simp only [Option.some.injEq, Prod.mk.injEq] at H
    obtain ⟨rfl, rfl, rfl, rfl, rfl, rfl⟩ := H
    go_enter Tryd.func42, Tryd.ntmps42
    go_wp2_with (first | ((with_reducible refine gate_dst (N := 4) rfl ?_); refine be 4 #[.slice none 0 0, .int .u64 0, .int .u64 0, .int .i64 0, .int .i64 0] 79 ?_; intro gb286 hg w5 hbox hb; have BK286 := aq (hbox); have GW286 := aq ((by rw [hg]; exact (below_size (bw HB)) : w.heap.size ≤ gb286)); have GE286 := aq ((by rw [hg]; exact (below_size (bw HB)) : w.heap.size ≤ gb286)); replace HB := aq (below_step (bw HB) hb); clear hb hbox hg) | ((with_reducible refine gate_callee (f := 79) rfl ?_); refine gL 11 Tryd.func79 #[.int .u64 a0, .int .u64 a1] ?_; (with_reducible refine (proof_Inclusion.calls k a0 a1 t287 t290 t291 t292 t293 none _ ?side1 A3.out).mono ?_); (case side1 => first | exact HG.out | exact Glob.drewN HG.out _ | exact Glob.below HG.out (bw HB)); rintro e w6 ⟨v288, rfl, ho0, hb⟩; refine ⟨_, rfl, ?_⟩; have HO289 := aq (Kd.Q_lower ho0 (below_size (bw HB))); replace BK286 := aq (blk_below (bq BK286) hb); replace HB := aq (below_step (bw HB) hb); (try clear hb); (try clear hk); (try clear ho0); (try simp only [errW_none, errW_some])) | ((with_reducible refine gate_dst (N := 6) rfl ?_); refine be 6 #[.slice none 0 0, .int .i64 0, .int .i64 0, .int .u64 0, .int .u64 0] 132 ?_; intro gb295 hg w7 hbox hb; have BK295 := aq (hbox); have GW295 := aq ((by rw [hg]; exact (below_size (bw HB)) : w.heap.size ≤ gb295)); have GE295 := aq ((by rw [hg]; exact (below_size (bw HB)) : w.heap.size ≤ gb295)); have NB286_295 := aq ((by rw [hg]; exact Nat.ne_of_lt (blk_lt (g := gb286) (o := .cells #[.slice none 0 0, .int .u64 0, .int .u64 0, .int .i64 0, .int .i64 0] 79 (0, 0)) (bq BK286)) : gb286 ≠ gb295)); have NB295_286 := aq ((by rw [hg]; exact Nat.ne_of_gt (blk_lt (g := gb286) (o := .cells #[.slice none 0 0, .int .u64 0, .int .u64 0, .int .i64 0, .int .i64 0] 79 (0, 0)) (bq BK286)) : gb295 ≠ gb286)); replace HO289 := aq (Kd.Q_below (by (with_reducible repeat (first | apply Kd.Q_alloc | apply Kd.Q_drewN | apply Kd.Q_drew)); exact HO289.out) hb); replace BK286 := aq (blk_below (bq BK286) hb); replace HB := aq (below_step (bw HB) hb); clear hb hbox hg; obtain ⟨Ao8, co8, eo8, _⟩ := Kd.Q_slice HO289.out; subst eo8; have hnb9 := NB295_286.out; have hnc9 := NB286_295.out; have hcz10_0 : w7.cell? ⟨gb295, 0, none⟩ = some (.slice none 0 0) := bc BK295 0; have hcz10_1 : w7.cell? ⟨gb295, 1, none⟩ = some (.int .i64 0) := bc BK295 1; have hcz10_2 : w7.cell? ⟨gb295, 2, none⟩ = some (.int .i64 0) := bc BK295 2; have hcz10_3 : w7.cell? ⟨gb295, 3, none⟩ = some (.int .u64 0) := bc BK295 3; have hcz10_4 : w7.cell? ⟨gb295, 4, none⟩ = some (.int .u64 0) := bc BK295 4; have hfz10_0 := bz BK295 0; have hfz10_1 := bz BK295 1; have hfz10_2 := bz BK295 2; have hfz10_3 := bz BK295 3; have hfz10_4 := bz BK295 4) | ((with_reducible refine gate_callee (f := 80) rfl ?_); refine gL 18 Tryd.func80 #[.agg #[.slice Ao8 t287.length co8, .int .i64 t290, .int .i64 t291, .int .u64 t292, .int .u64 t293]] ?_; (with_reducible refine (impl_fromProof.calls k _ _ t287 t290 t291 t292 t293 t297 t300 t301 t302 t303 _ ?side1 ?side2 A4.out).mono ?_); (case side1 => refine (Kd.Q_reads' (e := 108) (base := w.heap.size) (ok := fun k_ => True) (n := t287.length) (c := co8) ?_).2.2; exact (by (with_reducible repeat (first | apply Kd.Q_alloc | apply Kd.Q_drewN | apply Kd.Q_drew)); exact (Kd.Q_mono (Kd.Q_far (p := ⟨gb295, 4, none⟩) (Kd.Q_far (p := ⟨gb295, 3, none⟩) (Kd.Q_far (p := ⟨gb295, 2, none⟩) (Kd.Q_far (p := ⟨gb295, 1, none⟩) (Kd.Q_far (p := ⟨gb295, 0, none⟩) (Kd.Q_types HO289.out BK295.out (by decide)) (fun _ hk => hk.2) (.slice Ao8 t287.length co8)) (fun _ hk => hk.2) (.int .i64 t290)) (fun _ hk => hk.2) (.int .i64 t291)) (fun _ hk => hk.2) (.int .u64 t292)) (fun _ hk => hk.2) (.int .u64 t293)) (fun _ h_ => h_.1)))); (case side2 => exact (Kd.Q_reads' HO289.out).2.1); rintro e w11 ⟨v298, rfl, ho0, hb⟩; refine ⟨_, rfl, ?_⟩; have HO299 := aq (Kd.R_lower ho0 (below_size (bw HB))); replace HO289 := aq (Kd.Q_below (by (with_reducible repeat (first | apply Kd.Q_alloc | apply Kd.Q_drewN | apply Kd.Q_drew)); exact (Kd.Q_mono (Kd.Q_far (p := ⟨gb295, 4, none⟩) (Kd.Q_far (p := ⟨gb295, 3, none⟩) (Kd.Q_far (p := ⟨gb295, 2, none⟩) (Kd.Q_far (p := ⟨gb295, 1, none⟩) (Kd.Q_far (p := ⟨gb295, 0, none⟩) (Kd.Q_types HO289.out BK295.out (by decide)) (fun _ hk => hk.2) (.slice Ao8 t287.length co8)) (fun _ hk => hk.2) (.int .i64 t290)) (fun _ hk => hk.2) (.int .i64 t291)) (fun _ hk => hk.2) (.int .u64 t292)) (fun _ hk => hk.2) (.int .u64 t293)) (fun _ h_ => h_.1))) hb); replace BK286 := aq (blk_below (g := gb286) (o := .cells #[.slice none 0 0, .int .u64 0, .int .u64 0, .int .i64 0, .int .i64 0] 79 (0, 0)) (by (with_reducible repeat (first | refine blk_drewN ?_ _ | refine blk_drew ?_ | refine blk_alloc ?_ _)); refine blk_far ?_ NB286_295.out _; (with_reducible repeat (first | refine blk_drewN ?_ _ | refine blk_drew ?_ | refine blk_alloc ?_ _)); refine blk_far ?_ NB286_295.out _; (with_reducible repeat (first | refine blk_drewN ?_ _ | refine blk_drew ?_ | refine blk_alloc ?_ _)); refine blk_far ?_ NB286_295.out _; (with_reducible repeat (first | refine blk_drewN ?_ _ | refine blk_drew ?_ | refine blk_alloc ?_ _)); refine blk_far ?_ NB286_295.out _; (with_reducible repeat (first | refine blk_drewN ?_ _ | refine blk_drew ?_ | refine blk_alloc ?_ _)); refine blk_far ?_ NB286_295.out _; (with_reducible repeat (first | refine blk_drewN ?_ _ | refine blk_drew ?_ | refine blk_alloc ?_ _)); exact BK286.out) hb); replace BK295 := aq (blk_below (g := gb295) (o := .cells #[.slice Ao8 t287.length co8, .int .i64 t290, .int .i64 t291, .int .u64 t292, .int .u64 t293] 132 (0, 0)) (by (with_reducible repeat (first | refine blk_drewN ?_ _ | refine blk_drew ?_ | refine blk_alloc ?_ _)); refine blk_put (cs := #[.slice Ao8 t287.length co8, .int .i64 t290, .int .i64 t291, .int .u64 t292, .int .u64 0]) ?_ 4 _ rfl; (with_reducible repeat (first | refine blk_drewN ?_ _ | refine blk_drew ?_ | refine blk_alloc ?_ _)); refine blk_put (cs := #[.slice Ao8 t287.length co8, .int .i64 t290, .int .i64 t291, .int .u64 0, .int .u64 0]) ?_ 3 _ rfl; (with_reducible repeat (first | refine blk_drewN ?_ _ | refine blk_drew ?_ | refine blk_alloc ?_ _)); refine blk_put (cs := #[.slice Ao8 t287.length co8, .int .i64 t290, .int .i64 0, .int .u64 0, .int .u64 0]) ?_ 2 _ rfl; (with_reducible repeat (first | refine blk_drewN ?_ _ | refine blk_drew ?_ | refine blk_alloc ?_ _)); refine blk_put (cs := #[.slice Ao8 t287.length co8, .int .i64 0, .int .i64 0, .int .u64 0, .int .u64 0]) ?_ 1 _ rfl; (with_reducible repeat (first | refine blk_drewN ?_ _ | refine blk_drew ?_ | refine blk_alloc ?_ _)); refine blk_put (cs := #[.slice none 0 0, .int .i64 0, .int .i64 0, .int .u64 0, .int .u64 0]) ?_ 0 _ rfl; (with_reducible repeat (first | refine blk_drewN ?_ _ | refine blk_drew ?_ | refine blk_alloc ?_ _)); exact BK295.out) hb); replace HB := aq (below_step (bw HB) hb); (try clear hb); (try clear hk); (try clear ho0); obtain ⟨Ao12, co12, eo12⟩ := Kd.R_slice HO299.out; subst eo12; have hcz13_0 : w11.cell? ⟨gb286, 0, none⟩ = some (.slice none 0 0) := bc BK286 0; have hcz13_1 : w11.cell? ⟨gb286, 1, none⟩ = some (.int .u64 0) := bc BK286 1; have hcz13_2 : w11.cell? ⟨gb286, 2, none⟩ = some (.int .u64 0) := bc BK286 2; have hcz13_3 : w11.cell? ⟨gb286, 3, none⟩ = some (.int .i64 0) := bc BK286 3; have hcz13_4 : w11.cell? ⟨gb286, 4, none⟩ = some (.int .i64 0) := bc BK286 4; have hfz13_0 := bz BK286 0; have hfz13_1 := bz BK286 1; have hfz13_2 := bz BK286 2; have hfz13_3 := bz BK286 3; have hfz13_4 := bz BK286 4))
    refine bodyPost_ret (results_ct rfl _ _ gb286 79 #[.slice Ao12 t297.length co12, .int .u64 t300, .int .u64 t301, .int .i64 t302, .int .i64 t303] (0, 0) _ rfl (by (with_reducible repeat (first | refine blk_drewN ?_ _ | refine blk_drew ?_ | refine blk_alloc ?_ _)); refine blk_put (cs := #[.slice Ao12 t297.length co12, .int .u64 t300, .int .u64 t301, .int .i64 t302, .int .i64 0]) ?_ 4 _ rfl; (with_reducible repeat (first | refine blk_drewN ?_ _ | refine blk_drew ?_ | refine blk_alloc ?_ _)); refine blk_put (cs := #[.slice Ao12 t297.length co12, .int .u64 t300, .int .u64 t301, .int .i64 0, .int .i64 0]) ?_ 3 _ rfl; (with_reducible repeat (first | refine blk_drewN ?_ _ | refine blk_drew ?_ | refine blk_alloc ?_ _)); refine blk_put (cs := #[.slice Ao12 t297.length co12, .int .u64 t300, .int .u64 0, .int .i64 0, .int .i64 0]) ?_ 2 _ rfl; (with_reducible repeat (first | refine blk_drewN ?_ _ | refine blk_drew ?_ | refine blk_alloc ?_ _)); refine blk_put (cs := #[.slice Ao12 t297.length co12, .int .u64 0, .int .u64 0, .int .i64 0, .int .i64 0]) ?_ 1 _ rfl; (with_reducible repeat (first | refine blk_drewN ?_ _ | refine blk_drew ?_ | refine blk_alloc ?_ _)); refine blk_put (cs := #[.slice none 0 0, .int .u64 0, .int .u64 0, .int .i64 0, .int .i64 0]) ?_ 0 _ rfl; (with_reducible repeat (first | refine blk_drewN ?_ _ | refine blk_drew ?_ | refine blk_alloc ?_ _)); exact BK286.out) Tryd.underlying79 rfl (by kernel_rfl)) rfl ?_
    exact ⟨_, by first | rfl | (simp [errW_none, errW_some] <;> rfl) | (simp [*, errW_none, errW_some] <;> rfl), by (with_reducible repeat (first | apply Kd.R_alloc | apply Kd.R_drewN | apply Kd.R_drew)); exact Kd.R_mono (Kd.R_far (p := ⟨gb286, 4, none⟩) (Kd.R_far (p := ⟨gb286, 3, none⟩) (Kd.R_far (p := ⟨gb286, 2, none⟩) (Kd.R_far (p := ⟨gb286, 1, none⟩) (Kd.R_far (p := ⟨gb286, 0, none⟩) (Kd.R_types HO299.out BK286.out (by decide)) (fun _ hk => hk.2) (.slice Ao12 t297.length co12)) (fun _ hk => hk.2) (.int .u64 t300)) (fun _ hk => hk.2) (.int .u64 t301)) (fun _ hk => hk.2) (.int .i64 t302)) (fun _ hk => hk.2) (.int .i64 t303)) (fun _ hk => trivial), by repeat (first | (with_reducible first | exact HB.out | apply below_alloc | apply pw_below_drewN | apply below_drew1 | refine below_set ?_ GE286.out | refine below_set ?_ GE295.out) | exact HB.out)⟩
  · have H1 : (some (([] : List (S52)), 0, 0, 0, 0, false)) = some (r1, r2, r3, r4, r5, r6) := by rw [if_neg (show ¬ (some q296).isNone = true by simp)] at H; exact H
    clear H
    have H := H1
    clear H1
    try simp only [errW_none, errW_some]
    simp only [Option.some.injEq, Prod.mk.injEq] at H
    obtain ⟨rfl, rfl, rfl, rfl, rfl, rfl⟩ := H
    go_enter Tryd.func42, Tryd.ntmps42
    go_wp2_with (first | ((with_reducible refine gate_dst (N := 4) rfl ?_); refine be 4 #[.slice none 0 0, .int .u64 0, .int .u64 0, .int .i64 0, .int .i64 0] 79 ?_; intro gb286 hg w14 hbox hb; have BK286 := aq (hbox); have GW286 := aq ((by rw [hg]; exact (below_size (bw HB)) : w.heap.size ≤ gb286)); have GE286 := aq ((by rw [hg]; exact (below_size (bw HB)) : w.heap.size ≤ gb286)); replace HB := aq (below_step (bw HB) hb); clear hb hbox hg) | ((with_reducible refine gate_callee (f := 79) rfl ?_); refine gL 11 Tryd.func79 #[.int .u64 a0, .int .u64 a1] ?_; (with_reducible refine (proof_Inclusion.calls k a0 a1 t287 t290 t291 t292 t293 (some q296) _ ?side1 A3.out).mono ?_); (case side1 => first | exact HG.out | exact Glob.drewN HG.out _ | exact Glob.below HG.out (bw HB)); rintro e w15 ⟨v288, rfl, ho0, hb⟩; refine ⟨_, rfl, ?_⟩; have HO289 := aq (Kd.Q_lower ho0 (below_size (bw HB))); replace BK286 := aq (blk_below (bq BK286) hb); replace HB := aq (below_step (bw HB) hb); (try clear hb); (try clear hk); (try clear ho0); (try simp only [errW_none, errW_some])) | ((with_reducible refine gate_dst (N := 6) rfl ?_); refine be 6 #[.slice none 0 0, .int .i64 0, .int .i64 0, .int .u64 0, .int .u64 0] 132 ?_; intro gb295 hg w16 hbox hb; have BK295 := aq (hbox); have GW295 := aq ((by rw [hg]; exact (below_size (bw HB)) : w.heap.size ≤ gb295)); have GE295 := aq ((by rw [hg]; exact (below_size (bw HB)) : w.heap.size ≤ gb295)); have NB286_295 := aq ((by rw [hg]; exact Nat.ne_of_lt (blk_lt (g := gb286) (o := .cells #[.slice none 0 0, .int .u64 0, .int .u64 0, .int .i64 0, .int .i64 0] 79 (0, 0)) (bq BK286)) : gb286 ≠ gb295)); have NB295_286 := aq ((by rw [hg]; exact Nat.ne_of_gt (blk_lt (g := gb286) (o := .cells #[.slice none 0 0, .int .u64 0, .int .u64 0, .int .i64 0, .int .i64 0] 79 (0, 0)) (bq BK286)) : gb295 ≠ gb286)); replace HO289 := aq (Kd.Q_below (by (with_reducible repeat (first | apply Kd.Q_alloc | apply Kd.Q_drewN | apply Kd.Q_drew)); exact HO289.out) hb); replace BK286 := aq (blk_below (bq BK286) hb); replace HB := aq (below_step (bw HB) hb); clear hb hbox hg; obtain ⟨Ao17, co17, eo17, _⟩ := Kd.Q_slice HO289.out; subst eo17; have hnb18 := NB295_286.out; have hnc18 := NB286_295.out; have hcz19_0 : w16.cell? ⟨gb295, 0, none⟩ = some (.slice none 0 0) := bc BK295 0; have hcz19_1 : w16.cell? ⟨gb295, 1, none⟩ = some (.int .i64 0) := bc BK295 1; have hcz19_2 : w16.cell? ⟨gb295, 2, none⟩ = some (.int .i64 0) := bc BK295 2; have hcz19_3 : w16.cell? ⟨gb295, 3, none⟩ = some (.int .u64 0) := bc BK295 3; have hcz19_4 : w16.cell? ⟨gb295, 4, none⟩ = some (.int .u64 0) := bc BK295 4; have hfz19_0 := bz BK295 0; have hfz19_1 := bz BK295 1; have hfz19_2 := bz BK295 2; have hfz19_3 := bz BK295 3; have hfz19_4 := bz BK295 4; have hcz20_0 : w16.cell? ⟨gb286, 0, none⟩ = some (.slice none 0 0) := bc BK286 0; have hcz20_1 : w16.cell? ⟨gb286, 1, none⟩ = some (.int .u64 0) := bc BK286 1; have hcz20_2 : w16.cell? ⟨gb286, 2, none⟩ = some (.int .u64 0) := bc BK286 2; have hcz20_3 : w16.cell? ⟨gb286, 3, none⟩ = some (.int .i64 0) := bc BK286 3; have hcz20_4 : w16.cell? ⟨gb286, 4, none⟩ = some (.int .i64 0) := bc BK286 4; have hfz20_0 := bz BK286 0; have hfz20_1 := bz BK286 1; have hfz20_2 := bz BK286 2; have hfz20_3 := bz BK286 3; have hfz20_4 := bz BK286 4))
    refine bodyPost_ret (results_ct rfl _ _ gb286 79 #[.slice none 0 0, .int .u64 0, .int .u64 0, .int .i64 0, .int .i64 0] (0, 0) _ rfl (by (with_reducible repeat (first | refine blk_drewN ?_ _ | refine blk_drew ?_ | refine blk_alloc ?_ _)); refine blk_put (cs := #[.slice none 0 0, .int .u64 0, .int .u64 0, .int .i64 0, .int .i64 0]) ?_ 4 _ rfl; (with_reducible repeat (first | refine blk_drewN ?_ _ | refine blk_drew ?_ | refine blk_alloc ?_ _)); refine blk_put (cs := #[.slice none 0 0, .int .u64 0, .int .u64 0, .int .i64 0, .int .i64 0]) ?_ 3 _ rfl; (with_reducible repeat (first | refine blk_drewN ?_ _ | refine blk_drew ?_ | refine blk_alloc ?_ _)); refine blk_put (cs := #[.slice none 0 0, .int .u64 0, .int .u64 0, .int .i64 0, .int .i64 0]) ?_ 2 _ rfl; (with_reducible repeat (first | refine blk_drewN ?_ _ | refine blk_drew ?_ | refine blk_alloc ?_ _)); refine blk_put (cs := #[.slice none 0 0, .int .u64 0, .int .u64 0, .int .i64 0, .int .i64 0]) ?_ 1 _ rfl; (with_reducible repeat (first | refine blk_drewN ?_ _ | refine blk_drew ?_ | refine blk_alloc ?_ _)); refine blk_put (cs := #[.slice none 0 0, .int .u64 0, .int .u64 0, .int .i64 0, .int .i64 0]) ?_ 0 _ rfl; (with_reducible repeat (first | refine blk_drewN ?_ _ | refine blk_drew ?_ | refine blk_alloc ?_ _)); refine blk_far ?_ NB286_295.out _; (with_reducible repeat (first | refine blk_drewN ?_ _ | refine blk_drew ?_ | refine blk_alloc ?_ _)); refine blk_far ?_ NB286_295.out _; (with_reducible repeat (first | refine blk_drewN ?_ _ | refine blk_drew ?_ | refine blk_alloc ?_ _)); refine blk_far ?_ NB286_295.out _; (with_reducible repeat (first | refine blk_drewN ?_ _ | refine blk_drew ?_ | refine blk_alloc ?_ _)); refine blk_far ?_ NB286_295.out _; (with_reducible repeat (first | refine blk_drewN ?_ _ | refine blk_drew ?_ | refine blk_alloc ?_ _)); refine blk_far ?_ NB286_295.out _; (with_reducible repeat (first | refine blk_drewN ?_ _ | refine blk_drew ?_ | refine blk_alloc ?_ _)); exact BK286.out) Tryd.underlying79 rfl (by kernel_rfl)) rfl ?_
    exact ⟨_, by first | rfl | (simp [errW_none, errW_some] <;> rfl) | (simp [*, errW_none, errW_some] <;> rfl), by first | exact Kd.R_nil _ _ _ _ _ | exact Kd.N_nil _ _ _ _ _ | exact Kd.V_nil _ _ _ _ _ | exact Kd.Q_nil _ _ _ _ _ | exact Kd.S_nil _ _ _ _ _, by repeat (first | (with_reducible first | exact HB.out | apply below_alloc | apply pw_below_drewN | apply below_drew1 | refine below_set ?_ GE286.out | refine below_set ?_ GE295.out) | exact HB.out)⟩
set_option maxHeartbeats 1000000 in
set_option maxRecDepth 100000 in
theorem impl_Inclusion.err (a0 a1 : Int) (w : World) (hgt : a1 ≤ a0) : Calls Tryd.prog 42 #[.int .u64 a0, .int .u64 a1] w fun e w' => e = .returned (.tuple #[.agg #[.slice none 0 0, .int .u64 0, .int .u64 0, .int .i64 0, .int .i64 0], .bool false]) ∧ Below w.heap.size w w' := by
  go_enter Tryd.func42, Tryd.ntmps42
  go_wp2_with (go_at_call 79; refine (proof_Inclusion.err _ _ _ hgt).mono ?_; rintro e w1 ⟨T, x, rfl, hb⟩; obtain ⟨hc, hf⟩ := bcell hb; have hz : w.heap.size < w1.heap.size := by (have := hb.size; simp at this; omega))
  have hz2 : w.heap.size + 1 ≤ w1.heap.size := by have := hb.size; simp at this; omega
  refine bodyPost_ret (v := .tuple #[.agg #[.slice none 0 0, .int .u64 0, .int .u64 0, .int .i64 0, .int .i64 0], .bool false]) (by simp [results, Tryd.results42, go_sem, hc, hz]) rfl ⟨rfl, ?_⟩
  have h0 : Below w.heap.size w w1 := below_then (below_alloc (Below.refl _ _) _) (by simp) hb
  repeat (with_reducible first | exact h0 | refine Below.setCell ?_ (by first | (simp; done) | (simp; omega)) _ | refine below_alloc ?_ _)
def impl_Inclusion.f (k : Nat) (a0 : Int) (a1 : Int) : Option ((List (S52)) × Int × Int × Int × Int × Bool) := if a0 ≥ a1 then (some ([], 0, 0, 0, 0, false)) else (impl_Inclusion0.f k a0 a1)
theorem impl_Inclusion.calls (k : Nat) (a0 : Int) (a1 : Int) (r1 : List (S52)) (r2 : Int) (r3 : Int) (r4 : Int) (r5 : Int) (r6 : Bool) (w : World) (HG_ : Glob w) (h : impl_Inclusion.f k a0 a1 = some (r1, r2, r3, r4, r5, r6)) :
    Calls Tryd.prog 42 #[.int .u64 a0, .int .u64 a1] w fun e w' => ∃ v0_ : Value, e = .returned (.tuple #[.agg #[v0_, .int .u64 r2, .int .u64 r3, .int .i64 r4, .int .i64 r5], .bool r6]) ∧ Kd.R k52 52 w' w.heap.size (fun _ => True) v0_ r1 ∧ Below w.heap.size w w' := by
  unfold impl_Inclusion.f at h
  split at h
  · simp only [Option.some.injEq, Prod.mk.injEq] at h
    obtain ⟨rfl, rfl, rfl, rfl, rfl, rfl⟩ := h
    refine (impl_Inclusion.err a0 a1 w (by omega)).mono ?_
    rintro e w' ⟨rfl, hb⟩
    exact ⟨_, rfl, Kd.R_nil _ _ _ _ _, hb⟩
  · exact impl_Inclusion0.calls k a0 a1 r1 r2 r3 r4 r5 r6 w HG_ h
def spec_Named.l0 : Nat → List (S58) → List (S52) → Int → Int → Int → Int → List (List Int) → Option ((List (S58)))
  | 0, _, _, _, _, _, _, _ => none
  | k + 1, x3, x11, x12, x13, x305000, x305001, x305002 => if x13 < x12 then (if 0 ≤ x13 then (if x13 < (x11.length : Int) then (if x13 < (x305002.length : Int) then (if x3.length < 3518437208883 then (spec_Named.l0 k (x3 ++ [(⟨(⟨(rd_T52 x11 x13).f0, (rd_T52 x11 x13).f1⟩ : S52), rd_L1 x305002 x13⟩ : S58)]) x11 x12 (wrap64 (x13 + 1)) x305000 x305001 x305002) else (none)) else (none)) else (none)) else (none)) else (some x3)
def spec_Named.f (k : Nat) (a0_0 : Int) (a0_1 : Int) (l0_2 : List (List Int)) : Option ((List (S58))) := (spec_Nodes.f k a0_0 a0_1).bind fun t305 => (spec_Named.l0 k ([] : List (S58)) t305 (t305.length : Int) 0 a0_0 a0_1 l0_2)
theorem spec_Named.mono_l : ∀ k, (∀ y0 y1 y2 y3 y4 y5 y6, LeO (spec_Named.l0 k y0 y1 y2 y3 y4 y5 y6) (spec_Named.l0 (k + 1) y0 y1 y2 y3 y4 y5 y6))
  | 0 => fun _ _ _ _ _ _ _ r h => by simp [spec_Named.l0] at h
  | k + 1 => by
    have ih0 := spec_Named.mono_l k
    · intro y0 y1 y2 y3 y4 y5 y6
      unfold spec_Named.l0
      repeat' first
      | (with_reducible exact ih0 _ _ _ _ _ _ _)
      | (with_reducible exact spec_Nodes.mono _ _ _)
      | (with_reducible exact LeO.refl _)
      | (with_reducible exact LeO.none _)
      | (with_reducible refine LeO.ite ?_ ?_)
      | (with_reducible refine LeO.bind ?_ (fun _ => ?_))
      | exact LeO.none _
      | refine LeO.ite ?_ ?_
      | refine LeO.bind ?_ (fun _ => ?_)
theorem spec_Named.mono : ∀ a0 a1 a2 k, LeO (spec_Named.f k a0 a1 a2) (spec_Named.f (k + 1) a0 a1 a2) := by
  intro a0 a1 a2 k
  have ih0 := spec_Named.mono_l k
  unfold spec_Named.f
  repeat' first
      | (with_reducible exact ih0 _ _ _ _ _ _ _)
      | (with_reducible exact spec_Nodes.mono _ _ _)
      | (with_reducible exact LeO.refl _)
      | (with_reducible exact LeO.none _)
      | (with_reducible refine LeO.ite ?_ ?_)
      | (with_reducible refine LeO.bind ?_ (fun _ => ?_))
      | exact LeO.none _
      | refine LeO.ite ?_ ?_
      | refine LeO.bind ?_ (fun _ => ?_)
def spec_Named.T5 : Bool × List (List Nat × List Nat) := (true, [([], []), ([], []), ([], []), ([2], [2]), ([], []), ([3, 4], [3, 4]), ([5], [5]), ([1, 6], [1, 6]), ([7], [7]), ([0, 8], [0, 8]), ([9, 9, 0, 1, 2, 3, 4, 5, 6, 7, 8, 9], [0, 9])])
def spec_Named.B5 : List Nat := [0, 0, 0, 4, 0, 28, 60, 126, 254, 511, 1023]
theorem spec_Named.tab5 : rtab .any (opsOf Tryd.f81 5) = spec_Named.T5 := by kernel_rfl
theorem spec_Named.bits5 : waitsOk spec_Named.T5.2 spec_Named.B5 = true := by kernel_rfl
set_option maxHeartbeats 8000000 in
set_option maxRecDepth 100000 in
theorem spec_Named.calls (k : Nat) (a0_0 : Int) (a0_1 : Int) (P0_2_ : Nat → Prop) (A0_2 : Option Addr) (c0_2 : Nat) (l0_2 : List (List Int)) (r : List (S58)) (w : World) (hs0_2 : Kd.V (Kd.slice 5 (Kd.int .u8)) 28 w w.heap.size (fun k_ => P0_2_ k_) (.slice A0_2 l0_2.length c0_2) l0_2) (h : spec_Named.f k a0_0 a0_1 l0_2 = some r) :
    Calls Tryd.prog 81 #[.agg #[.int .u64 a0_0, .int .u64 a0_1, .slice A0_2 l0_2.length c0_2]] w fun e w' => ∃ v0_ : Value, e = .returned (v0_) ∧ Kd.N k58 58 w' w.heap.size (fun k_ => (P0_2_ k_ ∨ w.heap.size ≤ k_)) v0_ r ∧ Below w.heap.size w w' := by
  have hu35 := Tryd.underlying35
  have hu55 := Tryd.underlying55
  have hu52 := Tryd.underlying52
  have hu58 := Tryd.underlying58
  have HO0_2 := aq (show Kd.V (Kd.slice 5 (Kd.int .u8)) 28 w w.heap.size (fun k_ => (P0_2_ k_ ∨ w.heap.size ≤ k_)) (.slice A0_2 l0_2.length c0_2) l0_2 from Kd.V_mono hs0_2 (fun k_ hk => .inl hk))
  have HB := aq (Below.refl w.heap.size w)
  have H : ((spec_Nodes.f k a0_0 a0_1).bind fun t305 => (spec_Named.l0 k ([] : List (S58)) t305 (t305.length : Int) 0 a0_0 a0_1 l0_2)) = some r := h
  clear h
  replace H := Option.bind_eq_some_iff.mp H
  obtain ⟨t305, A20, H⟩ := H
  have A2 := aq A20
  clear A20
  have H' := aq H
  clear H
  go_enter Tryd.func81, Tryd.ntmps81
  go_wp2_with (first | ((with_reducible refine gate_dst (N := 1) rfl ?_); refine be 1 #[.int .u64 a0_0, .int .u64 a0_1, .slice A0_2 l0_2.length c0_2] 35 ?_; intro gb304 hg w3 hbox hb; have BK304 := aq (hbox); have GW304 := aq ((by rw [hg]; exact (below_size (bw HB)) : w.heap.size ≤ gb304)); have GE304 := aq ((by rw [hg]; exact (below_size (bw HB)) : w.heap.size ≤ gb304)); replace HO0_2 := aq (Kd.V_below (Kd.V_elderB (vq HO0_2) gb304 (Nat.le_of_eq hg.symm)) hb); replace HB := aq (below_step (bw HB) hb); clear hb hbox hg; have hcz4_0 : w3.cell? ⟨gb304, 0, none⟩ = some (.int .u64 a0_0) := bc BK304 0; have hcz4_1 : w3.cell? ⟨gb304, 1, none⟩ = some (.int .u64 a0_1) := bc BK304 1; have hcz4_2 : w3.cell? ⟨gb304, 2, none⟩ = some (.slice A0_2 l0_2.length c0_2) := bc BK304 2; have hfz4_0 := bz BK304 0; have hfz4_1 := bz BK304 1; have hfz4_2 := bz BK304 2) | ((with_reducible refine gate_callee (f := 66) rfl ?_); refine gL 11 Tryd.func66 #[.agg #[.int .u64 a0_0, .int .u64 a0_1]] ?_; (with_reducible refine (spec_Nodes.calls k a0_0 a0_1 t305 _ A2.out).mono ?_); rintro e w5 ⟨v306, rfl, ho0, hb⟩; refine ⟨_, rfl, ?_⟩; have HO307 := aq (Kd.R_lower (Kd.R_newM (M := fun k_ => (w.heap.size ≤ k_)) ho0 (below_size (bw HB)) (fun k_ h_ => h_)) (below_size (bw HB))); replace HO0_2 := aq (Kd.V_elder' (vq HO0_2) (Kd.R_base ho0) hb); replace BK304 := aq (blk_below (bq BK304) hb); replace HB := aq (below_step (bw HB) hb); (try clear hb); (try clear hk); (try clear ho0); obtain ⟨Ao6, co6, eo6⟩ := Kd.R_slice HO307.out; subst eo6))
  (try simp only [Act.put, List.setIfInBounds_toArray, List.set_cons_zero, List.set_cons_succ])
  go_loopg [3, 13] k (fun kq v3 v13 w' => ∃ (x3_1 : List (S58)) (x13_1 : Int), v13 = .int .i64 x13_1 ∧ Aside0 (spec_Named.l0 kq x3_1 t305 (t305.length : Int) x13_1 a0_0 a0_1 l0_2 = some r) ∧ Aside0 (kq ≤ k) ∧ Aside0 (Kd.N k58 58 w' w.heap.size (fun k_ => (P0_2_ k_ ∨ w.heap.size ≤ k_) ∧ some k_ ≠ ((.slice Ao6 t305.length co6) : Value).ownBlock ∧ k_ ≠ gb304) v3 x3_1) ∧ Aside0 (Kd.R k52 52 w' w.heap.size (fun k_ => (w.heap.size ≤ k_)) (.slice Ao6 t305.length co6) t305) ∧ Aside0 (Kd.V (Kd.slice 5 (Kd.int .u8)) 28 w' w.heap.size (fun k_ => (P0_2_ k_ ∨ w.heap.size ≤ k_) ∧ some k_ ≠ (v3 : Value).ownBlock ∧ some k_ ≠ ((.slice Ao6 t305.length co6) : Value).ownBlock ∧ k_ ≠ gb304) (.slice A0_2 l0_2.length c0_2) l0_2) ∧ Aside0 (w'.heap[gb304]? = some (.cells #[.int .u64 a0_0, .int .u64 a0_1, (.slice A0_2 l0_2.length c0_2)] 35 (0, 0))) ∧ Aside0 (Below w.heap.size w w'))
  case atStart => exact ⟨(([] : List (S58))), (0), (by first | rfl | (simp; done) | (simp [*]; done)), H', ⟨Nat.le_refl _⟩, ⟨by first | exact Kd.S_nil _ _ _ _ _ | exact Kd.N_nil _ _ _ _ _ | exact Kd.V_nil _ _ _ _ _ | exact Kd.Q_nil _ _ _ _ _ | exact Kd.R_nil _ _ _ _ _⟩, ⟨by (with_reducible repeat (first | apply Kd.R_alloc | apply Kd.R_drewN | apply Kd.R_drew)); exact Kd.R_mono HO307.out (fun _ hk => hk.1)⟩, ⟨by (with_reducible repeat (first | apply Kd.V_alloc | apply Kd.V_drewN | apply Kd.V_drew)); exact Kd.V_mono HO0_2.out (fun _ hk => ⟨hk.1.1, ⟨(by simp [Value.ownBlock]), ⟨hk.2, hk.1.2⟩⟩⟩)⟩, ⟨by (with_reducible repeat (first | refine blk_drewN ?_ _ | refine blk_drew ?_ | refine blk_alloc ?_ _)); exact BK304.out⟩, ⟨by repeat (first | (with_reducible first | exact HB.out | apply below_alloc | apply pw_below_drewN | apply below_drew1 | refine below_set ?_ GE304.out) | exact HB.out)⟩⟩
  case round =>
    clear H'
    try clear p2
    try clear c6
    try clear hcz4_0
    try clear hcz4_1
    try clear hcz4_2
    try clear hfz4_0
    try clear hfz4_1
    try clear hfz4_2
    obtain ⟨x3_1, x13_1, rfl, HA, HK1, HO_3, HO_11, HO_305002, BK304, HB⟩ := hrel
    cases gk with
    | zero => exact absurd HA.out (by simp [spec_Named.l0])
    | succ k1 =>
      have H := HA.out
      clear HA
      simp only [spec_Named.l0] at H
      by_cases c7 : x13_1 < (t305.length : Int)
      · rw [if_pos c7] at H
        have c7b0 : decide (x13_1 < (t305.length : Int)) = true := decide_eq_true c7
        clear c7
        by_cases c8 : 0 ≤ x13_1
        · rw [if_pos c8] at H
          have c8b0 : decide (0 ≤ x13_1) = true := decide_eq_true c8
          clear c8
          by_cases c9 : x13_1 < (t305.length : Int)
          · rw [if_pos c9] at H
            have c9b0 : decide (x13_1 < (t305.length : Int)) = true := decide_eq_true c9
            clear c9
            by_cases c10 : x13_1 < (l0_2.length : Int)
            · rw [if_pos c10] at H
              have c10b0 : decide (x13_1 < (l0_2.length : Int)) = true := decide_eq_true c10
              clear c10
              by_cases c11 : x3_1.length < 3518437208883
              · rw [if_pos c11] at H
                have LMc11 := aq c11
                clear c11
                obtain ⟨y311, hy311⟩ : ∃ y_ : List (S58), y_ = (x3_1 ++ [(⟨(⟨(rd_T52 t305 x13_1).f0, (rd_T52 t305 x13_1).f1⟩ : S52), rd_L1 l0_2 x13_1⟩ : S58)]) := ⟨_, rfl⟩
                replace H : (spec_Named.l0 k1 y311 t305 (t305.length : Int) (wrap64 (x13_1 + 1)) a0_0 a0_1 l0_2) = some r := by first | (rw [hy311]; with_reducible exact H) | (have H2_ := (Option.bind_some _ _).symm.trans H; rw [hy311]; with_reducible exact H2_) | (have H2_ := (Option.bind_some _ _).symm.trans H; with_reducible exact H2_) | with_reducible exact H | (rw [hy311]; exact H) | exact H
                have Ny311 := aq hy311
                clear hy311
                have H' := aq H
                clear H
                have p308 : 0 ≤ (x13_1 : Int) := of_decide_eq_true (by first | (with_reducible assumption) | assumption)
                have q308 : x13_1 < (t305.length : Int) := of_decide_eq_true (by first | (with_reducible assumption) | assumption)
                obtain ⟨ad308, e308, hx308_0, hx308_1⟩ := at_T52 (Kd.R_reads' HO_11.out).2.2 x13_1 p308 q308
                cases e308
                replace p308 := eq_true p308
                replace q308 := eq_true q308
                try go_wp2_with (first | ((with_reducible refine gate_dst (N := 5) rfl ?_); refine be 5 #[.int .u64 0, .int .u64 0] 52 ?_; intro gb309 hg w12 hbox hb; have BK309 := aq (hbox); have GW309 := aq ((by rw [hg]; exact (below_size (bw HB)) : w.heap.size ≤ gb309)); have GE309 := aq ((by rw [hg]; exact (below_size (bw HB)) : w.heap.size ≤ gb309)); have NB304_309 := aq ((by rw [hg]; exact Nat.ne_of_lt (blk_lt (g := gb304) (o := .cells #[.int .u64 a0_0, .int .u64 a0_1, .slice A0_2 l0_2.length c0_2] 35 (0, 0)) (bq BK304)) : gb304 ≠ gb309)); have NB309_304 := aq ((by rw [hg]; exact Nat.ne_of_gt (blk_lt (g := gb304) (o := .cells #[.int .u64 a0_0, .int .u64 a0_1, .slice A0_2 l0_2.length c0_2] 35 (0, 0)) (bq BK304)) : gb309 ≠ gb304)); replace HO_3 := aq (Kd.N_below (Kd.N_elderB (nq HO_3) gb309 (Nat.le_of_eq hg.symm)) hb); replace HO_11 := aq (Kd.R_below (Kd.R_elderB (rq HO_11) gb309 (Nat.le_of_eq hg.symm)) hb); replace HO_305002 := aq (Kd.V_below (Kd.V_elderB (vq HO_305002) gb309 (Nat.le_of_eq hg.symm)) hb); replace BK304 := aq (blk_below (bq BK304) hb); replace HB := aq (below_step (bw HB) hb); clear hb hbox hg; have hnb13 := NB309_304.out; have hnc13 := NB304_309.out; have hcz14_0 : w12.cell? ⟨gb309, 0, none⟩ = some (.int .u64 0) := bc BK309 0; have hcz14_1 : w12.cell? ⟨gb309, 1, none⟩ = some (.int .u64 0) := bc BK309 1; have hfz14_0 := bz BK309 0; have hfz14_1 := bz BK309 1))
                have n0_ : Aside0 (Kd.N k58 58 ((w12.setCell ⟨gb309, 0, none⟩ (.int .u64 ((rd_T52 t305 x13_1).f0))).setCell ⟨gb309, 1, none⟩ (.int .u64 ((rd_T52 t305 x13_1).f1))) w.heap.size (fun k_ => (P0_2_ k_ ∨ w.heap.size ≤ k_) ∧ some k_ ≠ (.slice (some ad308) t305.length co6 : Value).ownBlock ∧ k_ ≠ gb304 ∧ k_ ≠ gb309) u3 x3_1) := ⟨by (with_reducible repeat (first | apply Kd.N_alloc | apply Kd.N_drewN | apply Kd.N_drew)); exact Kd.N_mono (Kd.N_far (p := ⟨gb309, 1, none⟩) (Kd.N_far (p := ⟨gb309, 0, none⟩) (Kd.N_mono HO_3.out (fun k_ hk => (⟨hk, hk.2⟩ : _ ∧ k_ ≠ gb309))) (fun _ hk => hk.2) (.int .u64 ((rd_T52 t305 x13_1).f0))) (fun _ hk => hk.2) (.int .u64 ((rd_T52 t305 x13_1).f1))) (fun _ hk => ⟨hk.1.1.1, ⟨hk.1.1.2.1, ⟨hk.1.1.2.2, hk.1.2⟩⟩⟩)⟩
                have n1_ : Aside0 (Kd.R k52 52 ((w12.setCell ⟨gb309, 0, none⟩ (.int .u64 ((rd_T52 t305 x13_1).f0))).setCell ⟨gb309, 1, none⟩ (.int .u64 ((rd_T52 t305 x13_1).f1))) w.heap.size (fun k_ => (w.heap.size ≤ k_) ∧ k_ ≠ gb309) (.slice (some ad308) t305.length co6) t305) := ⟨by (with_reducible repeat (first | apply Kd.R_alloc | apply Kd.R_drewN | apply Kd.R_drew)); exact Kd.R_mono (Kd.R_far (p := ⟨gb309, 1, none⟩) (Kd.R_far (p := ⟨gb309, 0, none⟩) (Kd.R_mono HO_11.out (fun k_ hk => (⟨hk, hk.2⟩ : _ ∧ k_ ≠ gb309))) (fun _ hk => hk.2) (.int .u64 ((rd_T52 t305 x13_1).f0))) (fun _ hk => hk.2) (.int .u64 ((rd_T52 t305 x13_1).f1))) (fun _ hk => ⟨hk.1.1, hk.1.2⟩)⟩
                have n2_ : Aside0 (Kd.V (Kd.slice 5 (Kd.int .u8)) 28 ((w12.setCell ⟨gb309, 0, none⟩ (.int .u64 ((rd_T52 t305 x13_1).f0))).setCell ⟨gb309, 1, none⟩ (.int .u64 ((rd_T52 t305 x13_1).f1))) w.heap.size (fun k_ => (P0_2_ k_ ∨ w.heap.size ≤ k_) ∧ some k_ ≠ (u3 : Value).ownBlock ∧ some k_ ≠ (.slice (some ad308) t305.length co6 : Value).ownBlock ∧ k_ ≠ gb304 ∧ k_ ≠ gb309) (.slice A0_2 l0_2.length c0_2) l0_2) := ⟨by (with_reducible repeat (first | apply Kd.V_alloc | apply Kd.V_drewN | apply Kd.V_drew)); exact Kd.V_mono (Kd.V_far (p := ⟨gb309, 1, none⟩) (Kd.V_far (p := ⟨gb309, 0, none⟩) (Kd.V_mono HO_305002.out (fun k_ hk => (⟨hk, hk.2⟩ : _ ∧ k_ ≠ gb309))) (fun _ hk => hk.2) (.int .u64 ((rd_T52 t305 x13_1).f0))) (fun _ hk => hk.2) (.int .u64 ((rd_T52 t305 x13_1).f1))) (fun _ hk => ⟨hk.1.1.1, ⟨hk.1.1.2.1, ⟨hk.1.1.2.2.1, ⟨hk.1.1.2.2.2, hk.1.2⟩⟩⟩⟩)⟩
                have n3_ : Aside0 (((w12.setCell ⟨gb309, 0, none⟩ (.int .u64 ((rd_T52 t305 x13_1).f0))).setCell ⟨gb309, 1, none⟩ (.int .u64 ((rd_T52 t305 x13_1).f1))).heap[gb304]? = some (.cells #[.int .u64 a0_0, .int .u64 a0_1, .slice A0_2 l0_2.length c0_2] 35 (0, 0))) := ⟨by (with_reducible repeat (first | refine blk_drewN ?_ _ | refine blk_drew ?_ | refine blk_alloc ?_ _)); refine blk_far ?_ NB304_309.out _; (with_reducible repeat (first | refine blk_drewN ?_ _ | refine blk_drew ?_ | refine blk_alloc ?_ _)); refine blk_far ?_ NB304_309.out _; (with_reducible repeat (first | refine blk_drewN ?_ _ | refine blk_drew ?_ | refine blk_alloc ?_ _)); exact BK304.out⟩
                have n4_ : Aside0 (((w12.setCell ⟨gb309, 0, none⟩ (.int .u64 ((rd_T52 t305 x13_1).f0))).setCell ⟨gb309, 1, none⟩ (.int .u64 ((rd_T52 t305 x13_1).f1))).heap[gb309]? = some (.cells #[.int .u64 ((rd_T52 t305 x13_1).f0), .int .u64 ((rd_T52 t305 x13_1).f1)] 52 (0, 0))) := ⟨by (with_reducible repeat (first | refine blk_drewN ?_ _ | refine blk_drew ?_ | refine blk_alloc ?_ _)); refine blk_put (cs := #[.int .u64 ((rd_T52 t305 x13_1).f0), .int .u64 0]) ?_ 1 _ rfl; (with_reducible repeat (first | refine blk_drewN ?_ _ | refine blk_drew ?_ | refine blk_alloc ?_ _)); refine blk_put (cs := #[.int .u64 0, .int .u64 0]) ?_ 0 _ rfl; (with_reducible repeat (first | refine blk_drewN ?_ _ | refine blk_drew ?_ | refine blk_alloc ?_ _)); exact BK309.out⟩
                have n5_ : Aside0 (Below w.heap.size w ((w12.setCell ⟨gb309, 0, none⟩ (.int .u64 ((rd_T52 t305 x13_1).f0))).setCell ⟨gb309, 1, none⟩ (.int .u64 ((rd_T52 t305 x13_1).f1)))) := ⟨by repeat (first | (with_reducible first | exact HB.out | apply below_alloc | apply pw_below_drewN | apply below_drew1 | refine below_set ?_ GE304.out | refine below_set ?_ GE309.out) | exact HB.out)⟩
                (try clear HO_3)
                (try clear HO_11)
                (try clear HO_305002)
                (try clear BK304)
                (try clear BK309)
                (try clear HB)
                generalize ((w12.setCell ⟨gb309, 0, none⟩ (.int .u64 ((rd_T52 t305 x13_1).f0))).setCell ⟨gb309, 1, none⟩ (.int .u64 ((rd_T52 t305 x13_1).f1))) = w15 at n0_ n1_ n2_ n3_ n4_ n5_ ⊢
                have HO_3 := n0_
                have HO_11 := n1_
                have HO_305002 := n2_
                have BK304 := n3_
                have BK309 := n4_
                have HB := n5_
                clear n0_ n1_ n2_ n3_ n4_ n5_
                replace HO_3 := aq (Kd.N_drew HO_3.out)
                replace HO_11 := aq (Kd.R_drew HO_11.out)
                replace HO_305002 := aq (Kd.V_drew HO_305002.out)
                replace BK304 := aq (blk_drew BK304.out)
                replace BK309 := aq (blk_drew BK309.out)
                replace HB := aq (below_drew1 HB.out)
                have p310 : 0 ≤ (x13_1 : Int) := of_decide_eq_true (by first | (with_reducible assumption) | assumption)
                have q310 : x13_1 < (l0_2.length : Int) := of_decide_eq_true (by first | (with_reducible assumption) | assumption)
                obtain ⟨ad310, A310_0, c310_0, e310, hx310_0, hl310_0, hi310_0⟩ := at_L1 (Kd.V_reads' HO_305002.out).2.2 x13_1 p310 q310
                cases e310
                obtain ⟨ce310, hce310, hMe310, hcc310⟩ := Kd.V_get HO_305002.out [] x13_1 p310 (by first | exact q310 | exact of_decide_eq_true (by first | (with_reducible assumption) | assumption) | (have e_ := (Kd.V_reads' HO_305002.out).1; omega))
                obtain ⟨ua310_0, uc310_0, rfl, ul310_0, ge310_0⟩ := Kd.FK_slice_open hMe310
                have hv310_0 := hcc310 0 _ rfl
                rw [Nat.add_zero, show ((Kd.slice 5 (Kd.int .u8))).sz = 1 from rfl, Nat.mul_one] at hv310_0
                replace hv310_0 := Option.some.inj (hv310_0.symm.trans hx310_0)
                injection hv310_0 with hva_ hvn_ hvc_
                rw [hva_] at ge310_0
                rw [hvc_] at ul310_0
                have HL310_0 := aq (show Kd.V (Kd.int .u8) 5 _ w.heap.size _ _ (rd_L1 l0_2 x13_1) from Kd.V_mk ul310_0 ge310_0)
                clear hva_ hvn_ hvc_ ge310_0 ul310_0
                clear hcc310 hce310
                have HR310_0 := aq hi310_0
                have HC310_0 := aq hl310_0
                clear hi310_0 hl310_0
                replace p310 := eq_true p310
                replace q310 := eq_true q310
                refine start_ (n := 11) (S := fun w' => w'.cell? ⟨gb309, 0, none⟩ = some (.int .u64 ((rd_T52 t305 x13_1).f0)) ∧ w'.cell? ⟨gb309, 1, none⟩ = some (.int .u64 ((rd_T52 t305 x13_1).f1)) ∧ w'.cell? ⟨gb304, 0, none⟩ = some (.int .u64 a0_0) ∧ w'.cell? ⟨gb304, 1, none⟩ = some (.int .u64 a0_1) ∧ w'.cell? ⟨gb304, 2, none⟩ = some (.slice (some ad310) l0_2.length c0_2) ∧ w'.cell? (ad310.add (x13_1).toNat) = some (.slice A310_0 (rd_L1 l0_2 x13_1).length c310_0)) (ds := [8, 9]) #[false, false, false, false, false, false, false, false, false, false, false] (by kernel_rfl) rfl rfl ⟨bc BK309 0, bc BK309 1, bc BK304 0, bc BK304 1, bc BK304 2, hx310_0⟩ (fun hHeld => ?_); refine with_tabW spec_Named.tab5 spec_Named.bits5 (fun HT_ HW_ => ?_)
                generalize w15.drew = w16 at HO_3 HO_11 HO_305002 BK304 BK309 HB HL310_0 HR310_0 hx310_0 hHeld ⊢
                refine pv 0 18 HT_ ?_
                refine pv 2 20 HT_ ?_
                refine pv 4 22 HT_ ?_
                refine tv 1 19 HT_ HW_ hHeld ?_
                refine tv 3 21 HT_ HW_ hHeld ?_
                refine pv 5 23 HT_ ?_
                refine tv 6 24 HT_ HW_ hHeld ?_
                refine pv 7 25 HT_ ?_
                refine last_ (i := 8) (N := some 26) #[true, true, true, true, true, true, true, true, true, false, false] rfl rfl (one_of HT_.out (by kernel_rfl)) (by decide) (fun K hK => ?_)
                refine value_ (w1 := ?_) (v := ?_) (by rfl) rfl ?_ ?_
                rotate_left 2
                · go_simp
                  constructor
                  · rfl
                  · rfl
                refine hK.out _ _ ?_
                clear hK K
                refine nv ?_
                refine last_ (i := 9) (N := some 27) #[true, true, true, true, true, true, true, true, true, true, false] rfl rfl (one_of HT_.out (by kernel_rfl)) (by decide) (fun K hK => ?_)
                refine Kd.N_append_step k58 (w0 := w) w.heap.size (by rfl) (.tmp 18) (.tmp 26) 37 58 (.agg #[(.int .u64 0), (.int .u64 0), (.slice none 0 0)]) 40 rfl Tryd.underlying37 info58 rfl (by decide) (by omega) u3 x3_1 (⟨(⟨(rd_T52 t305 x13_1).f0, (rd_T52 t305 x13_1).f1⟩ : S52), rd_L1 l0_2 x13_1⟩ : S58) [.int .u64 ((rd_T52 t305 x13_1).f0), .int .u64 ((rd_T52 t305 x13_1).f1), .slice A310_0 (rd_L1 l0_2 x13_1).length c310_0] (fun k_ => (P0_2_ k_ ∨ w.heap.size ≤ k_) ∧ some k_ ≠ (.slice (some ad308) t305.length co6 : Value).ownBlock ∧ k_ ≠ gb304 ∧ k_ ≠ gb309) (fun k_ => ((fun k_ => (P0_2_ k_ ∨ w.heap.size ≤ k_) ∧ some k_ ≠ (.slice (some ad308) t305.length co6 : Value).ownBlock ∧ k_ ≠ gb304 ∧ k_ ≠ gb309)) k_ ∧ some k_ ≠ (u3 : Value).ownBlock) rfl rfl ?aP (fun _ hk => hk) ?aF ?aO ?aB ?aS ?aL ?_
                (case aP => exact (k58_mkF _ _ (⟨(⟨(rd_T52 t305 x13_1).f0, (rd_T52 t305 x13_1).f1⟩ : S52), rd_L1 l0_2 x13_1⟩ : S58) (Kd.V_reads' (Kd.V_mono (ok' := (fun k_ => ((fun k_ => (P0_2_ k_ ∨ w.heap.size ≤ k_) ∧ some k_ ≠ (.slice (some ad308) t305.length co6 : Value).ownBlock ∧ k_ ≠ gb304 ∧ k_ ≠ gb309)) k_ ∧ some k_ ≠ (u3 : Value).ownBlock)) (HL310_0.out) (fun k_ hk => ⟨⟨hk.1, ⟨hk.2.2.1, ⟨hk.2.2.2.1, hk.2.2.2.2⟩⟩⟩, hk.2.1⟩))).2.1 (Kd.V_F (Kd.V_mono (ok' := (fun k_ => ((fun k_ => (P0_2_ k_ ∨ w.heap.size ≤ k_) ∧ some k_ ≠ (.slice (some ad308) t305.length co6 : Value).ownBlock ∧ k_ ≠ gb304 ∧ k_ ≠ gb309)) k_ ∧ some k_ ≠ (u3 : Value).ownBlock)) (HL310_0.out) (fun k_ hk => ⟨⟨hk.1, ⟨hk.2.2.1, ⟨hk.2.2.2.1, hk.2.2.2.2⟩⟩⟩, hk.2.1⟩)))))
                (case aB => exact (bw HB))
                (case aF => exact (fun k_ hk => ⟨(.inr (Nat.le_trans (below_size (bw HB)) hk)), Kd.fresh' (Kd.R_lt (rq HO_11)) k_ hk, Kd.freshB (g := gb304) (o := .cells #[.int .u64 a0_0, .int .u64 a0_1, .slice (some ad310) l0_2.length c0_2] 35 (0, 0)) (bq BK304) k_ hk, Kd.freshB (g := gb309) (o := .cells #[.int .u64 ((rd_T52 t305 x13_1).f0), .int .u64 ((rd_T52 t305 x13_1).f1)] 52 (0, 0)) (bq BK309) k_ hk⟩))
                (case aO => exact (nq HO_3))
                (case aS => exact (below_size (bw HB)))
                (case aL => have := LMc11.out; omega)
                intro v312 w17 ho hb hg hat
                rw [← Ny311.out] at ho
                have HO313 := aq (ho)
                replace HO_11 := aq (Kd.R_over' (rq HO_11) (Kd.N_typed (nq HO_3)) (by decide) hg)
                replace HO_305002 := aq (Kd.V_afterv (ok := (fun k_ => (P0_2_ k_ ∨ w.heap.size ≤ k_) ∧ some k_ ≠ (.slice (some ad308) t305.length co6 : Value).ownBlock ∧ k_ ≠ gb304 ∧ k_ ≠ gb309)) (by (with_reducible repeat (first | apply Kd.V_alloc | apply Kd.V_drewN | apply Kd.V_drew)); exact Kd.V_mono HO_305002.out (fun _ hk => ⟨⟨hk.1, ⟨hk.2.2.1, ⟨hk.2.2.2.1, hk.2.2.2.2⟩⟩⟩, hk.2.1⟩)) hg hat)
                replace BK304 := aq (blk_grown (g := gb304) (o := .cells #[.int .u64 a0_0, .int .u64 a0_1, .slice (some ad310) l0_2.length c0_2] 35 (0, 0)) (bq BK304) hg (Kd.N_ne HO_3.out BK304.out (by decide)))
                replace BK309 := aq (blk_grown (g := gb309) (o := .cells #[.int .u64 ((rd_T52 t305 x13_1).f0), .int .u64 ((rd_T52 t305 x13_1).f1)] 52 (0, 0)) (bq BK309) hg (Kd.N_ne HO_3.out BK309.out (by decide)))
                replace HL310_0 := aq (Kd.V_afterv (ok := (fun k_ => (P0_2_ k_ ∨ w.heap.size ≤ k_) ∧ some k_ ≠ (.slice (some ad308) t305.length co6 : Value).ownBlock ∧ k_ ≠ gb304 ∧ k_ ≠ gb309)) (by (with_reducible repeat (first | apply Kd.V_alloc | apply Kd.V_drewN | apply Kd.V_drew)); exact Kd.V_mono HL310_0.out (fun _ hk => ⟨⟨hk.1, ⟨hk.2.2.1, ⟨hk.2.2.2.1, hk.2.2.2.2⟩⟩⟩, hk.2.1⟩)) hg hat)
                replace HB := aq (hb)
                clear HO_3
                clear ho hb hg hat
                refine hK.out _ _ ?_
                clear hK K
                refine nv ?_
                refine pv 10 3 HT_ ?_
                refine done_ (done_of HT_.out (by kernel_rfl)) ?_
                try go_wp2
                go_roundg k1
                case measure => have := HK1.out; omega
                case rel => exact ⟨(y311), (wrap64 (x13_1 + 1)), (by first | rfl | (simp; done) | (simp [*]; done)), H', ⟨by have := HK1.out; omega⟩, ⟨by (with_reducible repeat (first | apply Kd.N_alloc | apply Kd.N_drewN | apply Kd.N_drew)); exact Kd.N_mono HO313.out (fun _ hk => ⟨hk.1, ⟨hk.2.1, hk.2.2.1⟩⟩)⟩, ⟨by (with_reducible repeat (first | apply Kd.R_alloc | apply Kd.R_drewN | apply Kd.R_drew)); exact Kd.R_mono HO_11.out (fun _ hk => hk.1)⟩, ⟨by (with_reducible repeat (first | apply Kd.V_alloc | apply Kd.V_drewN | apply Kd.V_drew)); exact Kd.V_mono HO_305002.out (fun _ hk => ⟨hk.1.1, ⟨hk.2, ⟨hk.1.2.1, hk.1.2.2.1⟩⟩⟩)⟩, ⟨by (with_reducible repeat (first | refine blk_drewN ?_ _ | refine blk_drew ?_ | refine blk_alloc ?_ _)); exact BK304.out⟩, ⟨by repeat (first | (with_reducible first | exact HB.out | apply below_alloc | apply pw_below_drewN | apply below_drew1 | refine below_set ?_ GE304.out | refine below_set ?_ GE309.out) | exact HB.out)⟩⟩
              · rw [if_neg c11] at H
                exact absurd H (by simp)
            · rw [if_neg c10] at H
              exact absurd H (by simp)
          · rw [if_neg c9] at H
            exact absurd H (by simp)
        · rw [if_neg c8] at H
          exact absurd H (by simp)
      · rw [if_neg c7] at H
        have c7b0 : decide (x13_1 < (t305.length : Int)) = false := decide_eq_false c7
        clear c7
        obtain rfl := Option.some.inj H
        go_wp2
        go_ret
        exact ⟨_, by first | rfl | (simp [errW_none, errW_some] <;> rfl) | (simp [*, errW_none, errW_some] <;> rfl), by (with_reducible repeat (first | apply Kd.N_alloc | apply Kd.N_drewN | apply Kd.N_drew)); exact Kd.N_mono HO_3.out (fun _ hk => hk.1), by repeat (first | (with_reducible first | exact HB.out | apply below_alloc | apply pw_below_drewN | apply below_drew1 | refine below_set ?_ GE304.out) | exact HB.out)⟩
end Go.Proofs.YtfhcpniibiobgaaDoor.Qf
