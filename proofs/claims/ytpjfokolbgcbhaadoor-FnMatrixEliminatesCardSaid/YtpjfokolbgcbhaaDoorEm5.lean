-- Written by wip/tools/myprint.py for this seat (the kit's print with changes); Lean checks it.
import Derived.Test.YtpjfokolbgcbhaaDoorEm0
import Derived.Test.YtpjfokolbgcbhaaDoorEm1

import Derived.Test.YtpjfokolbgcbhaaDoorEm4
namespace Go.Proofs.YtpjfokolbgcbhaaDoor.Qm
open Go.RowKit Go.Proofs.YtpjfokolbgcbhaaDoorW.PrintWords Go.Proofs.YtpjfokolbgcbhaaDoorW.PrintLast Go.Proofs.YtpjfokolbgcbhaaDoorW.PrintMore
attribute [local go_sem] max2_int min2_int max_two min_two max_three min_three max_four min_four   -- for this text's walks alone
set_option linter.unusedVariables false
set_option linter.unusedSimpArgs false

/-! ### spec_Block: function 25 -/
def spec_Block.l0 : Nat → Int → Int → List (List Int) → List (List Int) → Int → Int → Option ((List (List Int)))
  | 0, _, _, _, _, _, _ => none
  | k + 1, x2, x4, x11, x18, x19, x20 => if x20 < x19 then (if 0 ≤ x20 then (if x20 < (x18.length : Int) then ((some (([] : List Int) : List Int)).bind fun y253 => (if 0 ≤ x2 then (if x2 ≤ x4 then (if x4 ≤ ((rd_L1 x18 x20).length : Int) then (if y253.length + (((rd_L1 x18 x20).take (x4 : Int).toNat).drop (x2 : Int).toNat).length < 140737488355328 then (if x11.length < 5864062014805 then (spec_Block.l0 k x2 x4 (x11 ++ [(y253 ++ (((rd_L1 x18 x20).take (x4 : Int).toNat).drop (x2 : Int).toNat))]) x18 x19 (wrap64 (x20 + 1))) else (none)) else (none)) else (none)) else (none)) else (none))) else (none)) else (none)) else (some x11)
def spec_Block.f (k : Nat) (l0 : List (List Int)) (a1 : Int) (a2 : Int) (a3 : Int) (a4 : Int) : Option ((List (List Int))) := if 0 ≤ a1 then (if a1 ≤ a3 then (if a3 ≤ (l0.length : Int) then ((some ((l0.take (a3 : Int).toNat).drop (a1 : Int).toNat : List (List Int))).bind fun y248 => (spec_Block.l0 k a2 a4 (([] : List (List Int))) y248 (y248.length : Int) 0)) else (none)) else (none)) else (none)
theorem spec_Block.mono_l : ∀ k, (∀ y0 y1 y2 y3 y4 y5, LeO (spec_Block.l0 k y0 y1 y2 y3 y4 y5) (spec_Block.l0 (k + 1) y0 y1 y2 y3 y4 y5))
  | 0 => fun _ _ _ _ _ _ r h => by simp [spec_Block.l0] at h
  | k + 1 => by
    have ih0 := spec_Block.mono_l k
    · intro y0 y1 y2 y3 y4 y5
      unfold spec_Block.l0
      repeat' first
      | (with_reducible exact ih0 _ _ _ _ _ _)
      | (with_reducible exact LeO.refl _)
      | (with_reducible exact LeO.none _)
      | (with_reducible refine LeO.ite ?_ ?_)
      | (with_reducible refine LeO.bind ?_ (fun _ => ?_))
      | exact ih0 _ _ _ _ _ _
      | exact LeO.none _
      | refine LeO.ite ?_ ?_
      | refine LeO.bind ?_ (fun _ => ?_)
theorem spec_Block.mono : ∀ a0 a1 a2 a3 a4 k, LeO (spec_Block.f k a0 a1 a2 a3 a4) (spec_Block.f (k + 1) a0 a1 a2 a3 a4) := by
  intro a0 a1 a2 a3 a4 k
  have ih0 := spec_Block.mono_l k
  unfold spec_Block.f
  repeat' first
      | (with_reducible exact ih0 _ _ _ _ _ _)
      | (with_reducible exact LeO.refl _)
      | (with_reducible exact LeO.none _)
      | (with_reducible refine LeO.ite ?_ ?_)
      | (with_reducible refine LeO.bind ?_ (fun _ => ?_))
      | exact ih0 _ _ _ _ _ _
      | exact LeO.none _
      | refine LeO.ite ?_ ?_
      | refine LeO.bind ?_ (fun _ => ?_)
set_option maxHeartbeats 8000000 in
set_option maxRecDepth 100000 in
theorem spec_Block.calls (k : Nat) (A0 : Option Addr) (c0 : Nat) (l0 : List (List Int)) (a1 : Int) (a2 : Int) (a3 : Int) (a4 : Int) (r : List (List Int)) (w : World) (hr0 : Kd.C (Kd.slice 5 (Kd.int .u8)) w A0 l0.length l0) (hc0 : l0.length ≤ c0) (h : spec_Block.f k l0 a1 a2 a3 a4 = some r) :
    Calls Tryd.prog 25 #[.slice A0 l0.length c0, .int .i64 a1, .int .i64 a2, .int .i64 a3, .int .i64 a4] w fun e w' => ∃ v0_ : Value, e = .returned (v0_) ∧ Kd.S (Kd.slice 5 (Kd.int .u8)) 24 w' w.heap.size (fun _ => True) v0_ r ∧ Below w.heap.size w w' := by
  have HR0 := Aside0.mk hr0
  have HC0 := Aside0.mk hc0
  clear hr0 hc0
  have HB := Aside0.mk (Below.refl w.heap.size w)
  have H : (if 0 ≤ a1 then (if a1 ≤ a3 then (if a3 ≤ (l0.length : Int) then ((some ((l0.take (a3 : Int).toNat).drop (a1 : Int).toNat : List (List Int))).bind fun y248 => (spec_Block.l0 k a2 a4 (([] : List (List Int))) y248 (y248.length : Int) 0)) else (none)) else (none)) else (none)) = some r := h
  clear h
  obtain ⟨y245, hy245⟩ : ∃ y_ : List (List Int), y_ = (([] : List (List Int))) := ⟨_, rfl⟩
  replace H : (if 0 ≤ a1 then (if a1 ≤ a3 then (if a3 ≤ (l0.length : Int) then ((some ((l0.take (a3 : Int).toNat).drop (a1 : Int).toNat : List (List Int))).bind fun y248 => (spec_Block.l0 k a2 a4 y245 y248 (y248.length : Int) 0)) else (none)) else (none)) else (none)) = some r := by first | (rw [hy245]; with_reducible exact H) | (have H2_ := (Option.bind_some _ _).symm.trans H; rw [hy245]; with_reducible exact H2_) | (have H2_ := (Option.bind_some _ _).symm.trans H; with_reducible exact H2_) | with_reducible exact H | (rw [hy245]; exact H) | exact H
  have Ny245 := Aside0.mk hy245
  clear hy245
  by_cases c6 : 0 ≤ a1
  · rw [if_pos c6] at H
    have c6b0 := eq_true c6
    have c6b1 : decide (0 ≤ a1) = true := decide_eq_true c6
    clear c6
    by_cases c7 : a1 ≤ a3
    · rw [if_pos c7] at H
      have c7b0 := eq_true c7
      have c7b1 : decide (a1 ≤ a3) = true := decide_eq_true c7
      clear c7
      by_cases c8 : a3 ≤ (l0.length : Int)
      · rw [if_pos c8] at H
        have c8b0 := eq_true c8
        have c8b1 : decide (a3 ≤ (l0.length : Int)) = true := decide_eq_true c8
        clear c8
        obtain ⟨y248, hy248⟩ : ∃ y_ : List (List Int), y_ = ((l0.take (a3 : Int).toNat).drop (a1 : Int).toNat) := ⟨_, rfl⟩
        replace H : (spec_Block.l0 k a2 a4 y245 y248 (y248.length : Int) 0) = some r := by first | (rw [hy248]; with_reducible exact H) | (have H2_ := (Option.bind_some _ _).symm.trans H; rw [hy248]; with_reducible exact H2_) | (have H2_ := (Option.bind_some _ _).symm.trans H; with_reducible exact H2_) | with_reducible exact H | (rw [hy248]; exact H) | exact H
        have Ny248 := Aside0.mk hy248
        clear hy248
        have H' := Aside0.mk H
        clear H
        go_enter Tryd.func25, Tryd.ntmps25
        go_wp2_with (first | ((with_reducible refine gate_dst (N := 14) rfl ?_); refine Kd.S_lit (Kd.slice 5 (Kd.int .u8)) _ 24 ?hg (N := 14) ?hd (xs := ([] : List (List Int))) (inner := []) (ok := fun _ => True) (okp := fun _ => True) ?hr ?hp (fun _ hk => hk) trivial (Below.refl _ _) (Nat.le_refl _) (by simp) ?_; (case hd => rfl); (case hg => rfl); (case hr => first | (go_simp; done) | (go_simp; rfl)); (case hp => exact (Reps.none _ _)); intro v246 w9 ho10 hb hg_ hnew_; clear hg_ hnew_; (first | rw [← Ny245.out] at ho10 | (simp only [Int.reduceToNat] at ho10; rw [← Ny245.out] at ho10)); have n0_ := Aside0.mk (Kd.S_lower ho10 (below_size (by repeat (first | (with_reducible first | exact HB.out | apply below_alloc | apply pw_below_drewN | apply below_drew1) | exact HB.out)))); have n1_ := Aside0.mk (below_step (by repeat (first | (with_reducible first | exact HB.out | apply below_alloc | apply pw_below_drewN | apply below_drew1) | exact HB.out)) hb); clear HB; have HO247 := n0_; have HB := n1_; clear n0_ n1_; clear hb ho10; have q11 : (a3 : Int) ≤ ((l0.length : Int) : Int) := of_decide_eq_true (by first | (with_reducible assumption) | assumption); obtain ⟨i011, hi011, _, hsz11, _⟩ := info_parts info24; have hroom11 : l0.length ≤ c0 := HC0.out; have hC11 : Kd.C (Kd.slice 5 (Kd.int .u8)) _ A0 l0.length l0 := HR0.out; have ql11 : (a1 : Int) ≤ (a3 : Int) := of_decide_eq_true (by first | (with_reducible assumption) | assumption); have q011 : (0 : Int) ≤ (a1 : Int) := of_decide_eq_true (by first | (with_reducible assumption) | assumption); have hcut11 := cut_mid (P := Tryd.prog) 30 24 .i64 .i64 Tryd.underlying30 hi011 1 hsz11 A0 l0.length c0 a1 a3 q011 ql11 q11 hroom11; have hr11 := Kd.C_mid (lo := (a1 : Int).toNat) (hi := (a3 : Int).toNat) (c := c0) hC11 (by omega) (by omega) hroom11; obtain ⟨A11, hA11⟩ : ∃ A1, A1 = (if c0 = (a1 : Int).toNat then A0 else (A0 : Option Addr).map (·.add ((a1 : Int).toNat * 1))) := ⟨_, rfl⟩; obtain ⟨c11, hc11⟩ : ∃ c1, c1 = c0 - (a1 : Int).toNat := ⟨_, rfl⟩; have hy11 : y248.length = (a3 : Int).toNat - (a1 : Int).toNat := (by rw [Ny248.out, List.length_drop, List.length_take] <;> omega); rw [show ((l0).take (a3 : Int).toNat).drop (a1 : Int).toNat = y248 from Ny248.out.symm] at hr11; replace hr11 : Kd.C (Kd.slice 5 (Kd.int .u8)) _ A11 y248.length y248 := (by rw [hA11]; exact hr11); rw [← hy11, ← hA11, ← hc11] at hcut11; have HR251 := Aside0.mk hr11; have HC251 := Aside0.mk (show y248.length ≤ c11 from by rw [hy11, hc11]; exact Nat.sub_le_sub_right (Nat.le_trans (by omega) hroom11) _); clear hr11 hC11 hroom11 hi011 hsz11 hc11; have KY11 := Aside0.mk hy11; have KA11 := Aside0.mk hA11; clear hy11 hA11; replace q11 := eq_true q11))
        (try simp only [Act.put, List.setIfInBounds_toArray, List.set_cons_zero, List.set_cons_succ])
        go_loopg [11, 20] k (fun kq v11 v20 w' => ∃ (x11_1 : List (List Int)) (x20_1 : Int), v20 = .int .i64 x20_1 ∧ Aside0 (spec_Block.l0 kq a2 a4 x11_1 y248 (y248.length : Int) x20_1 = some r) ∧ Aside0 (kq ≤ k) ∧ Aside0 (Kd.S (Kd.slice 5 (Kd.int .u8)) 24 w' w.heap.size (fun _ => True) v11 x11_1) ∧ Aside0 (Below w.heap.size w w'))
        case atStart => exact ⟨(y245), (0), (by first | rfl | (simp; done) | (simp [*]; done)), H', ⟨Nat.le_refl _⟩, ⟨by (with_reducible repeat (first | apply Kd.S_alloc | apply Kd.S_drewN | apply Kd.S_drew)); exact HO247.out⟩, ⟨by repeat (first | (with_reducible first | exact HB.out | apply below_alloc | apply pw_below_drewN | apply below_drew1) | exact HB.out)⟩⟩
        case round =>
          clear H'
          try clear c1
          try clear q1
          try clear c2
          try clear p2
          try clear c6
          try clear c6b0
          try clear c6b1
          try clear c7
          try clear c7b0
          try clear c7b1
          try clear c8
          try clear c8b0
          try clear c8b1
          try clear c11
          try clear q11
          try clear q011
          try clear q11
          obtain ⟨x11_1, x20_1, rfl, HA, HK1, HO_11, HB⟩ := hrel
          cases gk with
          | zero => exact absurd HA.out (by simp [spec_Block.l0])
          | succ k1 =>
            have H := HA.out
            clear HA
            simp only [spec_Block.l0] at H
            by_cases c12 : x20_1 < (y248.length : Int)
            · rw [if_pos c12] at H
              have c12b0 : decide (x20_1 < (y248.length : Int)) = true := decide_eq_true c12
              clear c12
              by_cases c13 : 0 ≤ x20_1
              · rw [if_pos c13] at H
                have c13b0 : decide (0 ≤ x20_1) = true := decide_eq_true c13
                clear c13
                by_cases c14 : x20_1 < (y248.length : Int)
                · rw [if_pos c14] at H
                  have c14b0 : decide (x20_1 < (y248.length : Int)) = true := decide_eq_true c14
                  clear c14
                  obtain ⟨y253, hy253⟩ : ∃ y_ : List Int, y_ = (([] : List Int)) := ⟨_, rfl⟩
                  replace H : (if 0 ≤ a2 then (if a2 ≤ a4 then (if a4 ≤ ((rd_L1 y248 x20_1).length : Int) then (if y253.length + (((rd_L1 y248 x20_1).take (a4 : Int).toNat).drop (a2 : Int).toNat).length < 140737488355328 then (if x11_1.length < 5864062014805 then (spec_Block.l0 k1 a2 a4 (x11_1 ++ [(y253 ++ (((rd_L1 y248 x20_1).take (a4 : Int).toNat).drop (a2 : Int).toNat))]) y248 (y248.length : Int) (wrap64 (x20_1 + 1))) else (none)) else (none)) else (none)) else (none)) else (none)) = some r := by first | (rw [hy253]; with_reducible exact H) | (have H2_ := (Option.bind_some _ _).symm.trans H; rw [hy253]; with_reducible exact H2_) | (have H2_ := (Option.bind_some _ _).symm.trans H; with_reducible exact H2_) | with_reducible exact H | (rw [hy253]; exact H) | exact H
                  have Ny253 := Aside0.mk hy253
                  clear hy253
                  by_cases c15 : 0 ≤ a2
                  · rw [if_pos c15] at H
                    have c15b0 := eq_true c15
                    have c15b1 : decide (0 ≤ a2) = true := decide_eq_true c15
                    clear c15
                    by_cases c16 : a2 ≤ a4
                    · rw [if_pos c16] at H
                      have c16b0 := eq_true c16
                      have c16b1 : decide (a2 ≤ a4) = true := decide_eq_true c16
                      clear c16
                      by_cases c17 : a4 ≤ ((rd_L1 y248 x20_1).length : Int)
                      · rw [if_pos c17] at H
                        have c17b0 := eq_true c17
                        have c17b1 : decide (a4 ≤ ((rd_L1 y248 x20_1).length : Int)) = true := decide_eq_true c17
                        clear c17
                        by_cases c18 : y253.length + (((rd_L1 y248 x20_1).take (a4 : Int).toNat).drop (a2 : Int).toNat).length < 140737488355328
                        · rw [if_pos c18] at H
                          have LMc18 := Aside0.mk c18
                          clear c18
                          obtain ⟨y257, hy257⟩ : ∃ y_ : List Int, y_ = (y253 ++ (((rd_L1 y248 x20_1).take (a4 : Int).toNat).drop (a2 : Int).toNat)) := ⟨_, rfl⟩
                          replace H : (if x11_1.length < 5864062014805 then (spec_Block.l0 k1 a2 a4 (x11_1 ++ [y257]) y248 (y248.length : Int) (wrap64 (x20_1 + 1))) else (none)) = some r := by first | (rw [hy257]; with_reducible exact H) | (have H2_ := (Option.bind_some _ _).symm.trans H; rw [hy257]; with_reducible exact H2_) | (have H2_ := (Option.bind_some _ _).symm.trans H; with_reducible exact H2_) | with_reducible exact H | (rw [hy257]; exact H) | exact H
                          have Ny257 := Aside0.mk hy257
                          clear hy257
                          by_cases c19 : x11_1.length < 5864062014805
                          · rw [if_pos c19] at H
                            have LMc19 := Aside0.mk c19
                            clear c19
                            obtain ⟨y260, hy260⟩ : ∃ y_ : List (List Int), y_ = (x11_1 ++ [y257]) := ⟨_, rfl⟩
                            replace H : (spec_Block.l0 k1 a2 a4 y260 y248 (y248.length : Int) (wrap64 (x20_1 + 1))) = some r := by first | (rw [hy260]; with_reducible exact H) | (have H2_ := (Option.bind_some _ _).symm.trans H; rw [hy260]; with_reducible exact H2_) | (have H2_ := (Option.bind_some _ _).symm.trans H; with_reducible exact H2_) | with_reducible exact H | (rw [hy260]; exact H) | exact H
                            have Ny260 := Aside0.mk hy260
                            clear hy260
                            have H' := Aside0.mk H
                            clear H
                            have p252 : 0 ≤ (x20_1 : Int) := of_decide_eq_true (by first | (with_reducible assumption) | assumption)
                            have q252 : x20_1 < (y248.length : Int) := of_decide_eq_true (by first | (with_reducible assumption) | assumption)
                            obtain ⟨ad252, A252_0, c252_0, e252, hx252_0, hl252_0, hi252_0⟩ := at_L1 HR251.out x20_1 p252 q252
                            cases e252
                            (try replace hx252_0 := (HB.out.cell (World.block_lt_of_cell? w _ hx252_0)).trans hx252_0)
                            have HR252_0 := Aside0.mk hi252_0
                            have HC252_0 := Aside0.mk hl252_0
                            clear hi252_0 hl252_0
                            replace p252 := eq_true p252
                            replace q252 := eq_true q252
                            go_wp2_with (first | ((with_reducible refine gate_dst (N := 25) rfl ?_); refine Kd.R_lit (Kd.int .u8) _ 5 ?hg (N := 25) ?hd (xs := ([] : List Int)) (inner := []) (ok := fun _ => True) (okp := fun _ => True) ?hr ?hp (fun _ hk => hk) trivial (Below.refl _ _) (Nat.le_refl _) (by simp) ?_; (case hd => rfl); (case hg => rfl); (case hr => first | (go_simp; done) | (go_simp; rfl)); (case hp => exact (Reps.none _ _)); intro v254 w20 ho21 hb hg_ hnew_; clear hg_ hnew_; (first | rw [← Ny253.out] at ho21 | (simp only [Int.reduceToNat] at ho21; rw [← Ny253.out] at ho21)); have n0_ := Aside0.mk (Kd.S_elder' (by (with_reducible repeat (first | apply Kd.S_alloc | apply Kd.S_drewN | apply Kd.S_drew)); exact HO_11.out) (Kd.R_base ho21) hb); have n1_ := Aside0.mk (Kd.R_lower ho21 (below_size (by repeat (first | (with_reducible first | exact HB.out | apply below_alloc | apply pw_below_drewN | apply below_drew1) | exact HB.out)))); have n2_ := Aside0.mk (below_step (by repeat (first | (with_reducible first | exact HB.out | apply below_alloc | apply pw_below_drewN | apply below_drew1) | exact HB.out)) hb); clear HO_11; clear HB; have HO_11 := n0_; have HO255 := n1_; have HB := n2_; clear n0_ n1_ n2_; clear hb ho21; obtain ⟨i022, hi022, _, hsz22, _⟩ := info_parts info5; obtain ⟨A22, hcut22, hA22, hC22⟩ := print_mid_of (P := Tryd.prog) (Value.int .u8) 0 24 5 .i64 .i64 Tryd.underlying24 hi022 hsz22 A252_0 c252_0 (rd_L1 y248 x20_1) a2 a4 (of_decide_eq_true (by first | (with_reducible assumption) | assumption)) (by first | omega | exact of_decide_eq_true (by first | (with_reducible assumption) | assumption)) (of_decide_eq_true (by first | (with_reducible assumption) | assumption)) HC252_0.out; have HR256 := Aside0.mk (Kd.C_of_reads (h1 := fun _ => rfl) (hA22 _ (Kd.reads_of_C HR252_0.out))); have HC256 := Aside0.mk hC22; clear hA22 hC22 hi022 hsz22) | ((with_reducible refine gate_builtin (b := .append) (xs := #[.tmp 25, .tmp 29]) rfl ?_); at_builtin; refine Kd.R_append_rows (Kd.int .u8) (w0 := w) w.heap.size rfl (.tmp 25) (.tmp 29) 24 5 (.int .u8 0) 1 rfl Tryd.underlying24 info5 rfl (by decide) (by omega) v254 y253 (((rd_L1 y248 x20_1).take (a4 : Int).toNat).drop (a2 : Int).toNat) _ _ _ (fun _ => True) (fun _ => False) rfl rfl ?aO ?aR (fun _ _ h => h) (fun _ h => h.elim) ?aF ?aB ?aS ?aL ?_; (case aR => first | (rw [← show (((rd_L1 y248 x20_1).take (a4 : Int).toNat).drop (a2 : Int).toNat).length = (a4.toNat - a2.toNat) from (by rw [List.length_drop, List.length_take]; have h_ : (a4 : Int) ≤ ((rd_L1 y248 x20_1).length : Int) := of_decide_eq_true (by first | (with_reducible assumption) | assumption); omega)]; repeat (first | exact (Kd.C_below HR256.out HB.out) | (with_reducible refine Kd.C_alloc ?_ _) | (with_reducible refine Kd.C_drewN ?_ _) | (with_reducible refine Kd.C_drew ?_))) | (repeat (first | exact (Kd.C_below HR256.out HB.out) | (with_reducible refine Kd.C_alloc ?_ _) | (with_reducible refine Kd.C_drewN ?_ _) | (with_reducible refine Kd.C_drew ?_)))); (case aB => exact (by repeat (first | (with_reducible first | exact HB.out | apply below_alloc | apply pw_below_drewN | apply below_drew1) | exact HB.out))); (case aF => exact (fun _ _ => trivial)); (case aO => exact (by (with_reducible repeat (first | apply Kd.R_alloc | apply Kd.R_drewN | apply Kd.R_drew)); exact HO255.out)); (case aS => exact (below_size (by repeat (first | (with_reducible first | exact HB.out | apply below_alloc | apply pw_below_drewN | apply below_drew1) | exact HB.out)))); (case aL => have := LMc18.out; have hlx_ := (show (((rd_L1 y248 x20_1).take (a4 : Int).toNat).drop (a2 : Int).toNat).length = (a4.toNat - a2.toNat) from (by rw [List.length_drop, List.length_take]; have h_ : (a4 : Int) ≤ ((rd_L1 y248 x20_1).length : Int) := of_decide_eq_true (by first | (with_reducible assumption) | assumption); omega)); omega); intro v258 w23 ho hb hg hat; rw [← Ny257.out] at ho; have n0_ := Aside0.mk (Kd.S_after (ok := (fun _ => True)) (by (with_reducible repeat (first | apply Kd.S_alloc | apply Kd.S_drewN | apply Kd.S_drew)); exact HO_11.out) hg hat); have n1_ := Aside0.mk (hb); have n2_ := Aside0.mk (ho); clear HO_11; clear HB; clear HO255; have HO_11 := n0_; have HB := n1_; have HO259 := n2_; clear n0_ n1_ n2_; clear ho hb hg hat; obtain ⟨Ao25, co25, eo25⟩ := Kd.R_slice HO259.out; subst eo25) | ((with_reducible refine gate_builtin (b := .append) (xs := #[.tmp 24, .tmp 31]) rfl ?_); at_builtin; refine Kd.S_append (Kd.slice 5 (Kd.int .u8)) (w0 := w) w.heap.size rfl (.tmp 24) (.tmp 31) 30 24 (.slice none 0 0) 24 rfl Tryd.underlying30 info24 rfl (by decide) (by omega) u11 x11_1 y257 [.slice Ao25 y257.length co25] (fun _ => True) (fun k_ => some k_ = (.slice Ao25 y257.length co25 : Value).ownBlock) rfl rfl ?aP (fun k_ hk_ => ((Kd.R_mono (ok' := fun k_ => ((fun _ => True)) k_ ∧ some k_ ≠ (u11 : Value).ownBlock) (Kd.R_apart' (HO259.out) (Kd.S_typed HO_11.out) (by decide)) (fun k_ hk => ⟨trivial, hk.2⟩))).1 k_ hk_.symm) ?aF ?aO ?aB ?aS ?aL ?_; (case aP => exact Kd.M_row (Kd.R_mono (Kd.R_tight rfl (Kd.R_mono (ok' := fun k_ => ((fun _ => True)) k_ ∧ some k_ ≠ (u11 : Value).ownBlock) (Kd.R_apart' (HO259.out) (Kd.S_typed HO_11.out) (by decide)) (fun k_ hk => ⟨trivial, hk.2⟩))) (fun _ h_ => h_))); (case aB => exact (by repeat (first | (with_reducible first | exact HB.out | apply below_alloc | apply pw_below_drewN | apply below_drew1) | exact HB.out))); (case aF => exact (fun _ _ => trivial)); (case aO => exact (by (with_reducible repeat (first | apply Kd.S_alloc | apply Kd.S_drewN | apply Kd.S_drew)); exact Kd.S_mono HO_11.out (fun k_ hk => ⟨trivial, fun e_ => hk.2 e_⟩))); (case aS => exact (below_size (by repeat (first | (with_reducible first | exact HB.out | apply below_alloc | apply pw_below_drewN | apply below_drew1) | exact HB.out)))); (case aL => have := LMc19.out; omega); intro v261 w24 ho hb hg hat; rw [← Ny260.out] at ho; have n0_ := Aside0.mk (hb); have n1_ := Aside0.mk (ho); clear HB; clear HO_11; clear HO259; have HB := n0_; have HO262 := n1_; clear n0_ n1_; clear ho hb hg hat))
                            go_roundg k1
                            case measure => have := HK1.out; omega
                            case rel => exact ⟨(y260), (wrap64 (x20_1 + 1)), (by first | rfl | (simp; done) | (simp [*]; done)), H', ⟨by have := HK1.out; omega⟩, ⟨by (with_reducible repeat (first | apply Kd.S_alloc | apply Kd.S_drewN | apply Kd.S_drew)); exact HO262.out⟩, ⟨by repeat (first | (with_reducible first | exact HB.out | apply below_alloc | apply pw_below_drewN | apply below_drew1) | exact HB.out)⟩⟩
                          · rw [if_neg c19] at H
                            exact absurd H (by simp)
                        · rw [if_neg c18] at H
                          exact absurd H (by simp)
                      · rw [if_neg c17] at H
                        exact absurd H (by simp)
                    · rw [if_neg c16] at H
                      exact absurd H (by simp)
                  · rw [if_neg c15] at H
                    exact absurd H (by simp)
                · rw [if_neg c14] at H
                  exact absurd H (by simp)
              · rw [if_neg c13] at H
                exact absurd H (by simp)
            · rw [if_neg c12] at H
              have c12b0 : decide (x20_1 < (y248.length : Int)) = false := decide_eq_false c12
              clear c12
              obtain rfl := Option.some.inj H
              go_wp2
              go_ret
              exact ⟨_, by first | rfl | (simp [errW_none, errW_some] <;> rfl) | (simp [*, errW_none, errW_some] <;> rfl), by (with_reducible repeat (first | apply Kd.S_alloc | apply Kd.S_drewN | apply Kd.S_drew)); exact HO_11.out, by repeat (first | (with_reducible first | exact HB.out | apply below_alloc | apply pw_below_drewN | apply below_drew1) | exact HB.out)⟩
      · rw [if_neg c8] at H
        exact absurd H (by simp)
    · rw [if_neg c7] at H
      exact absurd H (by simp)
  · rw [if_neg c6] at H
    exact absurd H (by simp)

end Go.Proofs.YtpjfokolbgcbhaaDoor.Qm
