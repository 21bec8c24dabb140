-- Written by wip/tools/myprint.py for this seat (the kit's print with changes); Lean checks it.
import Derived.Test.YtpjfokolbgcbhaaDoorQvx0
namespace Go.Proofs.YtpjfokolbgcbhaaDoor.Qv
open Go.RowKit Go.Proofs.YtpjfokolbgcbhaaDoorW.PrintWords Go.Proofs.YtpjfokolbgcbhaaDoorW.PrintLast Go.Proofs.YtpjfokolbgcbhaaDoorW.PrintMore
attribute [local go_sem] max2_int min2_int max_two min_two max_three min_three max_four min_four   -- for this text's walks alone
set_option linter.unusedVariables false
set_option linter.unusedSimpArgs false

/-! ### reedsolomon_galExp: function 44, by hand -/
set_option maxRecDepth 100000 in
set_option maxHeartbeats 2000000 in
theorem exp_zero (a : Nat) (w : World) : Calls Tryd.prog 44 #[.int .u8 (a : Nat), .int .i64 0] w fun e w' => e = .returned (.int .u8 1) ∧ Drawn0 w w' := by
  go_enter Tryd.func44, Tryd.ntmps44
  go_wp2
  go_ret
  exact ⟨rfl, Drawn0.refl _⟩
set_option maxRecDepth 100000 in
set_option maxHeartbeats 2000000 in
theorem exp_of0 (n : Nat) (hn : ((n : Int) == 0) = false) (w : World) : Calls Tryd.prog 44 #[.int .u8 0, .int .i64 (n : Nat)] w fun e w' => e = .returned (.int .u8 0) ∧ Drawn0 w w' := by
  go_enter Tryd.func44, Tryd.ntmps44
  go_wp2
  go_ret
  exact ⟨rfl, Drawn0.refl _⟩
set_option maxRecDepth 100000 in
set_option maxHeartbeats 2000000 in
theorem exp_some (a n la e0 t : Nat) (ha : ((a : Int) == 0) = false) (hn : ((n : Int) == 0) = false) (ha2 : a < 256) (hla : la < 255) (hm : la * n = t) (ht : t ≤ 25500000)
    (w : World) (h1 : w.cell? ⟨0, a, none⟩ = some (.int .u8 (la : Nat))) (h3 : w.cell? ⟨1, t % 255, none⟩ = some (.int .u8 (e0 : Nat))) :
    Calls Tryd.prog 44 #[.int .u8 (a : Nat), .int .i64 (n : Nat)] w fun e w' => e = .returned (.int .u8 (e0 : Nat)) ∧ Drawn0 w w' := by
  have hmi : wrap64 ((la : Int) * (n : Int)) = (t : Int) := by
    rw [show (la : Int) * (n : Int) = ((la * n : Nat) : Int) by push_cast; rfl, hm]; unfold wrap64; omega
  have HM := Lib.hid hmi
  clear hmi hm
  go_enter Tryd.func44, Tryd.ntmps44
  go_wp2
  rw [HM.out]
  go_loop [6] (fun v => ∃ s : Nat, v = .int .i64 (s : Nat) ∧ s ≤ t ∧ s % 255 = t % 255) (fun v => (intOf v).toNat)
  case atStart => exact ⟨t, rfl, Nat.le_refl _, rfl⟩
  case round =>
    obtain ⟨s, rfl, hs, hmod⟩ := hrel
    have HMOD := Lib.hid hmod
    clear hmod
    by_cases hlt : 255 ≤ s
    · go_wp2
      go_round
      case rel => exact ⟨s - 255, by rw [show (s : Int) - 255 = ((s - 255 : Nat) : Int) by omega], by omega, by have := HMOD.out; omega⟩
      case measure => simp [intOf]; omega
    · have hst : s = t % 255 := by have := HMOD.out; omega
      have h4 : w.cell? ⟨1, s, none⟩ = some (.int .u8 (e0 : Nat)) := by rw [hst]; exact h3
      clear hst h3
      go_wp2
      go_ret
      exact ⟨rfl, Drawn0.refl _⟩
def reedsolomon_galExp.f (a0 : Int) (a1 : Int) : Option (Int) := if 0 ≤ a0 ∧ a0 ≤ 255 ∧ 0 ≤ a1 ∧ a1 ≤ 100000 then some ((gexp a0.toNat a1.toNat : Nat) : Int) else none
theorem reedsolomon_galExp.calls (a0 : Int) (a1 : Int) (r : Int) (w : World) (HG_ : Glob w) (h : reedsolomon_galExp.f a0 a1 = some r) :
    Calls Tryd.prog 44 #[.int .u8 a0, .int .i64 a1] w fun e w' => e = .returned (.int .u8 r) ∧ Drawn0 w w' := by
  unfold reedsolomon_galExp.f at h
  by_cases hc : 0 ≤ a0 ∧ a0 ≤ 255 ∧ 0 ≤ a1 ∧ a1 ≤ 100000
  · rw [if_pos hc] at h
    obtain ⟨c0, c1, c2, c3⟩ := hc
    obtain ⟨a, rfl⟩ := Int.eq_ofNat_of_zero_le c0
    obtain ⟨n, rfl⟩ := Int.eq_ofNat_of_zero_le c2
    rw [Int.toNat_natCast, Int.toNat_natCast] at h
    obtain rfl := Option.some.inj h
    unfold gexp
    by_cases hn : n = 0
    · subst hn; rw [if_pos rfl]; exact exp_zero a w
    by_cases ha : a = 0
    · subst ha; rw [if_neg hn, if_pos rfl]; exact exp_of0 n (by simpa using hn) w
    rw [if_neg hn, if_neg ha]
    have la := log_lt a
    have hl : logL.getD a 0 * n ≤ 254 * 100000 := Nat.mul_le_mul (by omega) (by omega)
    have hm : (if logL.getD a 0 * n < 255 then logL.getD a 0 * n else (logL.getD a 0 * n) % 255) = (logL.getD a 0 * n) % 255 := by
      split
      · rw [Nat.mod_eq_of_lt (by assumption)]
      · rfl
    rw [hm]
    exact exp_some a n _ _ _ (by simpa using ha) (by simpa using hn) (by omega) la rfl (by omega) w (HG_.1 a (by omega)) (HG_.2 _ (by have := Nat.mod_lt (logL.getD a 0 * n) (show 0 < 255 by omega); omega))
  · rw [if_neg hc] at h; exact absurd h (by simp)

/-! ### reedsolomon_newMatrix: function 53 -/
def reedsolomon_newMatrix.l0 : Nat → Int → List (List Int) → Int → Int → Option ((List (List Int)) × Option Int)
  | 0, _, _, _, _ => none
  | k + 1, x1, x6, x17, x18 => if x18 < x17 then (if 0 ≤ x1 then (if (x1 : Int).toNat ≤ 281474976710656 then (if 0 ≤ x18 then (if x18 < (x6.length : Int) then (reedsolomon_newMatrix.l0 k x1 (x6.set (x18 : Int).toNat (List.replicate (x1 : Int).toNat 0)) x17 (wrap64 (x18 + 1))) else (none)) else (none)) else (none)) else (none)) else (some (x6, none))
def reedsolomon_newMatrix.f (k : Nat) (a0 : Int) (a1 : Int) : Option ((List (List Int)) × Option Int) := if a0 ≤ 0 then (none) else (if a1 ≤ 0 then (none) else (if 0 ≤ a0 then (if (a0 : Int).toNat ≤ 11728124029610 then ((some (List.replicate (a0 : Int).toNat [] : List (List Int))).bind fun y101 => (reedsolomon_newMatrix.l0 k a1 y101 (y101.length : Int) 0)) else (none)) else (none)))
theorem reedsolomon_newMatrix.mono_l : ∀ k, (∀ y0 y1 y2 y3, LeO (reedsolomon_newMatrix.l0 k y0 y1 y2 y3) (reedsolomon_newMatrix.l0 (k + 1) y0 y1 y2 y3))
  | 0 => fun _ _ _ _ r h => by simp [reedsolomon_newMatrix.l0] at h
  | k + 1 => by
    have ih0 := reedsolomon_newMatrix.mono_l k
    · intro y0 y1 y2 y3
      unfold reedsolomon_newMatrix.l0
      repeat' first
      | (with_reducible exact ih0 _ _ _ _)
      | (with_reducible exact LeO.refl _)
      | (with_reducible exact LeO.none _)
      | (with_reducible refine LeO.ite ?_ ?_)
      | (with_reducible refine LeO.bind ?_ (fun _ => ?_))
      | exact ih0 _ _ _ _
      | exact LeO.none _
      | refine LeO.ite ?_ ?_
      | refine LeO.bind ?_ (fun _ => ?_)
theorem reedsolomon_newMatrix.mono : ∀ a0 a1 k, LeO (reedsolomon_newMatrix.f k a0 a1) (reedsolomon_newMatrix.f (k + 1) a0 a1) := by
  intro a0 a1 k
  have ih0 := reedsolomon_newMatrix.mono_l k
  unfold reedsolomon_newMatrix.f
  repeat' first
      | (with_reducible exact ih0 _ _ _ _)
      | (with_reducible exact LeO.refl _)
      | (with_reducible exact LeO.none _)
      | (with_reducible refine LeO.ite ?_ ?_)
      | (with_reducible refine LeO.bind ?_ (fun _ => ?_))
      | exact ih0 _ _ _ _
      | exact LeO.none _
      | refine LeO.ite ?_ ?_
      | refine LeO.bind ?_ (fun _ => ?_)
set_option maxHeartbeats 8000000 in
set_option maxRecDepth 100000 in
theorem reedsolomon_newMatrix.calls (k : Nat) (a0 : Int) (a1 : Int) (r1 : List (List Int)) (r2 : Option Int) (w : World) (h : reedsolomon_newMatrix.f k a0 a1 = some (r1, r2)) :
    Calls Tryd.prog 53 #[.int .i64 a0, .int .i64 a1] w fun e w' => ∃ v0_ : Value, e = .returned (.tuple #[v0_, errW r2]) ∧ Kd.S (Kd.slice 5 (Kd.int .u8)) 24 w' w.heap.size (fun _ => True) v0_ r1 ∧ Below w.heap.size w w' := by
  have HB := Aside0.mk (Below.refl w.heap.size w)
  have H : (if a0 ≤ 0 then (none) else (if a1 ≤ 0 then (none) else (if 0 ≤ a0 then (if (a0 : Int).toNat ≤ 11728124029610 then ((some (List.replicate (a0 : Int).toNat [] : List (List Int))).bind fun y101 => (reedsolomon_newMatrix.l0 k a1 y101 (y101.length : Int) 0)) else (none)) else (none)))) = some (r1, r2) := h
  clear h
  by_cases c3 : a0 ≤ 0
  · rw [if_pos c3] at H
    exact absurd H (by simp)
  · rw [if_neg c3] at H
    have c3b0 : decide (a0 ≤ 0) = false := decide_eq_false c3
    clear c3
    by_cases c4 : a1 ≤ 0
    · rw [if_pos c4] at H
      exact absurd H (by simp)
    · rw [if_neg c4] at H
      have c4b0 : decide (a1 ≤ 0) = false := decide_eq_false c4
      clear c4
      by_cases c5 : 0 ≤ a0
      · rw [if_pos c5] at H
        have c5b0 := eq_true c5
        have c5b1 : decide (0 ≤ a0) = true := decide_eq_true c5
        clear c5
        by_cases c6 : (a0 : Int).toNat ≤ 11728124029610
        · rw [if_pos c6] at H
          have c6b0 := eq_true c6
          have c6b1 : decide ((a0 : Int).toNat ≤ 11728124029610) = true := decide_eq_true c6
          clear c6
          obtain ⟨y101, hy101⟩ : ∃ y_ : List (List Int), y_ = (List.replicate (a0 : Int).toNat []) := ⟨_, rfl⟩
          replace H : (reedsolomon_newMatrix.l0 k a1 y101 (y101.length : Int) 0) = some (r1, r2) := by first | (rw [hy101]; with_reducible exact H) | (have H2_ := (Option.bind_some _ _).symm.trans H; rw [hy101]; with_reducible exact H2_) | (have H2_ := (Option.bind_some _ _).symm.trans H; with_reducible exact H2_) | with_reducible exact H | (rw [hy101]; exact H) | exact H
          have Ny101 := Aside0.mk hy101
          clear hy101
          have H' := Aside0.mk H
          clear H
          go_enter Tryd.func53, Tryd.ntmps53
          go_wp2_with (first | ((with_reducible refine gate_dst (N := 15) rfl ?_); refine Kd.S_make (Kd.slice 5 (Kd.int .u8)) _ 24 rfl (N := 15) rfl 30 _ _ rfl a0 rfl rfl Tryd.underlying30 (.slice none 0 0) 24 info24 rfl (by decide) (by omega) [] (ok := fun _ => True) (okp := fun _ => True) ⟨_, rfl, Kd.R_nil _ _ _ _ _⟩ (fun _ hk => hk) trivial (of_decide_eq_true (by first | (with_reducible assumption) | assumption)) (Nat.le_trans (Nat.mul_le_mul_right _ (of_decide_eq_true (by first | (with_reducible assumption) | assumption) : a0.toNat ≤ 11728124029610)) (by omega)) (Below.refl _ _) (Nat.le_refl _) ?_; intro v102 w7 ho8 hb hg_ hnew_; clear hg_ hnew_; (first | rw [← Ny101.out] at ho8 | (simp only [Int.reduceToNat] at ho8; rw [← Ny101.out] at ho8)); have n0_ := Aside0.mk (Kd.S_lower ho8 (below_size (by repeat (first | (with_reducible first | exact HB.out | apply below_alloc | apply pw_below_drewN | apply below_drew1) | exact HB.out)))); have n1_ := Aside0.mk (below_step (by repeat (first | (with_reducible first | exact HB.out | apply below_alloc | apply pw_below_drewN | apply below_drew1) | exact HB.out)) hb); clear HB; have HO103 := n0_; have HB := n1_; clear n0_ n1_; clear hb ho8; obtain ⟨Ao9, co9, eo9⟩ := Kd.S_slice HO103.out; subst eo9))
          (try simp only [Act.put, List.setIfInBounds_toArray, List.set_cons_zero, List.set_cons_succ])
          go_loopg [18] k (fun kq v18 w' => ∃ (x6_1 : List (List Int)) (x18_1 : Int), v18 = .int .i64 x18_1 ∧ Aside0 (reedsolomon_newMatrix.l0 kq a1 x6_1 (y101.length : Int) x18_1 = some (r1, r2)) ∧ Aside0 (kq ≤ k) ∧ Aside0 (Kd.S (Kd.slice 5 (Kd.int .u8)) 24 w' w.heap.size (fun _ => True) (.slice Ao9 y101.length co9) x6_1) ∧ Aside0 (Below w.heap.size w w'))
          case atStart => exact ⟨(y101), (0), (by first | rfl | (simp; done) | (simp [*]; done)), H', ⟨Nat.le_refl _⟩, ⟨by (with_reducible repeat (first | apply Kd.S_alloc | apply Kd.S_drewN | apply Kd.S_drew)); exact HO103.out⟩, ⟨by repeat (first | (with_reducible first | exact HB.out | apply below_alloc | apply pw_below_drewN | apply below_drew1) | exact HB.out)⟩⟩
          case round =>
            clear H'
            try clear p2
            try clear c3
            try clear c3b0
            try clear c4
            try clear c4b0
            try clear c5
            try clear c5b0
            try clear c5b1
            try clear c6
            try clear c6b0
            try clear c6b1
            obtain ⟨x6_1, x18_1, rfl, HA, HK1, HO_6, HB⟩ := hrel
            have hl6_1 := (Kd.S_reads' HO_6.out).1
            rw [hl6_1] at HO_6
            (try simp only [hl6_1])
            cases gk with
            | zero => exact absurd HA.out (by simp [reedsolomon_newMatrix.l0])
            | succ k1 =>
              have H := HA.out
              clear HA
              simp only [reedsolomon_newMatrix.l0] at H
              by_cases c10 : x18_1 < (y101.length : Int)
              · rw [if_pos c10] at H
                have c10b0 : decide (x18_1 < (y101.length : Int)) = true := decide_eq_true c10
                clear c10
                by_cases c11 : 0 ≤ a1
                · rw [if_pos c11] at H
                  have c11b0 := eq_true c11
                  have c11b1 : decide (0 ≤ a1) = true := decide_eq_true c11
                  clear c11
                  by_cases c12 : (a1 : Int).toNat ≤ 281474976710656
                  · rw [if_pos c12] at H
                    have c12b0 := eq_true c12
                    have c12b1 : decide ((a1 : Int).toNat ≤ 281474976710656) = true := decide_eq_true c12
                    clear c12
                    obtain ⟨y104, hy104⟩ : ∃ y_ : List Int, y_ = (List.replicate (a1 : Int).toNat 0) := ⟨_, rfl⟩
                    replace H : (if 0 ≤ x18_1 then (if x18_1 < (x6_1.length : Int) then (reedsolomon_newMatrix.l0 k1 a1 (x6_1.set (x18_1 : Int).toNat y104) (y101.length : Int) (wrap64 (x18_1 + 1))) else (none)) else (none)) = some (r1, r2) := by first | (rw [hy104]; with_reducible exact H) | (have H2_ := (Option.bind_some _ _).symm.trans H; rw [hy104]; with_reducible exact H2_) | (have H2_ := (Option.bind_some _ _).symm.trans H; with_reducible exact H2_) | with_reducible exact H | (rw [hy104]; exact H) | exact H
                    have Ny104 := Aside0.mk hy104
                    clear hy104
                    by_cases c13 : 0 ≤ x18_1
                    · rw [if_pos c13] at H
                      have c13b0 : decide (0 ≤ x18_1) = true := decide_eq_true c13
                      clear c13
                      by_cases c14 : x18_1 < (x6_1.length : Int)
                      · rw [if_pos c14] at H
                        have c14b0 : decide (x18_1 < (x6_1.length : Int)) = true := decide_eq_true c14
                        clear c14
                        obtain ⟨y107, hy107⟩ : ∃ y_ : List (List Int), y_ = (x6_1.set (x18_1 : Int).toNat y104) := ⟨_, rfl⟩
                        replace H : (reedsolomon_newMatrix.l0 k1 a1 y107 (y101.length : Int) (wrap64 (x18_1 + 1))) = some (r1, r2) := by first | (rw [hy107]; with_reducible exact H) | (have H2_ := (Option.bind_some _ _).symm.trans H; rw [hy107]; with_reducible exact H2_) | (have H2_ := (Option.bind_some _ _).symm.trans H; with_reducible exact H2_) | with_reducible exact H | (rw [hy107]; exact H) | exact H
                        have Ny107 := Aside0.mk hy107
                        clear hy107
                        have H' := Aside0.mk H
                        clear H
                        go_wp2_with (first | ((with_reducible refine gate_dst (N := 24) rfl ?_); refine Kd.R_make (Kd.int .u8) _ 5 rfl (N := 24) rfl 24 _ _ rfl a1 rfl rfl Tryd.underlying24 (.int .u8 0) 1 info5 rfl (by decide) (by omega) 0 (ok := fun _ => True) (okp := fun _ => True) rfl (fun _ hk => hk) trivial (of_decide_eq_true (by first | (with_reducible assumption) | assumption)) (Nat.le_trans (Nat.mul_le_mul_right _ (of_decide_eq_true (by first | (with_reducible assumption) | assumption) : a1.toNat ≤ 281474976710656)) (by omega)) (Below.refl _ _) (Nat.le_refl _) ?_; intro v105 w16 ho17 hb hg_ hnew_; clear hg_ hnew_; (first | rw [← Ny104.out] at ho17 | (simp only [Int.reduceToNat] at ho17; rw [← Ny104.out] at ho17)); have n0_ := Aside0.mk (Kd.S_elder' (by (with_reducible repeat (first | apply Kd.S_alloc | apply Kd.S_drewN | apply Kd.S_drew)); exact HO_6.out) (Kd.R_base ho17) hb); have n1_ := Aside0.mk (Kd.R_lower ho17 (below_size (by repeat (first | (with_reducible first | exact HB.out | apply below_alloc | apply pw_below_drewN | apply below_drew1) | exact HB.out)))); have n2_ := Aside0.mk (below_step (by repeat (first | (with_reducible first | exact HB.out | apply below_alloc | apply pw_below_drewN | apply below_drew1) | exact HB.out)) hb); clear HO_6; clear HB; have HO_6 := n0_; have HO106 := n1_; have HB := n2_; clear n0_ n1_ n2_; clear hb ho17; have p15 : 0 ≤ (x18_1 : Int) := of_decide_eq_true (by first | (with_reducible assumption) | assumption); have q15 : (x18_1 : Int) < ((x6_1.length : Int) : Int) := of_decide_eq_true (by first | (with_reducible assumption) | assumption); obtain ⟨go15, co15, eo15, gb15, gl15, cl15, HG15⟩ := Kd.S_form HO_6.out (by omega); (first | cases eo15 | (injection eo15 with ea_ en_ ec_; (first | subst ea_ | (injection ea_ with ea_; subst ea_)); subst ec_; clear en_)); have GB15 := Aside0.mk gb15; have GG15 := Aside0.mk HG15; clear gb15 gl15 HG15; obtain ⟨_, ce15, hcl15, hM15, hcc15, hfr15, _, _⟩ := Kd.S_elem HO_6.out [] (x18_1 : Int) p15 q15; obtain ⟨ve15_0, rfl, ge15_0⟩ := hM15; have hx15_0 := hcc15 0 _ rfl; have hf15_0 := hfr15 0; (try simp only [show ((Kd.slice 5 (Kd.int .u8))).sz = 1 from rfl, Nat.mul_one, Nat.add_zero] at hx15_0); (try simp only [show ((Kd.slice 5 (Kd.int .u8))).sz = 1 from rfl, Nat.mul_one, Nat.add_zero] at hf15_0); (try clear hcl15); (try clear hcc15); (try clear hfr15); (try clear hM15); replace p15 := eq_true p15; replace q15 := eq_true q15; have n_ := Aside0.mk (Kd.S_mono (ok' := (fun k_ => some k_ ≠ (v105 : Value).ownBlock)) HO_6.out (fun k_ hk => hk.2)); clear HO_6; have HO_6 := n_; clear n_; have HX18 := Aside0.mk (show Kd.S (Kd.slice 5 (Kd.int .u8)) 24 w16 w.heap.size (fun k_ => ((fun _ => True)) k_ ∧ ¬ ((fun k_ => some k_ = (v105 : Value).ownBlock)) k_) (.slice (some ⟨go15, 0, none⟩) x6_1.length co9) x6_1 from (by (with_reducible repeat (first | apply Kd.S_alloc | apply Kd.S_drewN | apply Kd.S_drew)); exact Kd.S_mono HO_6.out (fun k_ hk => ⟨trivial, fun e_ => hk e_⟩))); obtain ⟨oki18, ce18, hcl18, hM18, hcc18, hfr18, hoki18, hH18⟩ := Kd.S_elem HX18.out [] (x18_1 : Int) (of_decide_eq_true (by first | (with_reducible assumption) | assumption)) (by have h_ : (x18_1 : Int) < ((x6_1.length : Int) : Int) := of_decide_eq_true (by first | (with_reducible assumption) | assumption); first | exact h_ | (have e_ := (Kd.S_reads' HO_6.out).1; omega) | simpa using h_); obtain ⟨ve18_0, rfl, ge18_0⟩ := hM18; have HP18 := Kd.S_seg hH18 (of_decide_eq_true (by first | (with_reducible assumption) | assumption)) (by have h_ : (x18_1 : Int) < ((x6_1.length : Int) : Int) := of_decide_eq_true (by first | (with_reducible assumption) | assumption); first | exact h_ | (have e_ := (Kd.S_reads' HO_6.out).1; omega) | simpa using h_) (seg := [v105]) (j := 0) (show 1 ≤ 1 from by decide) (x' := y104) (Kd.M_row (Kd.R_mono (Kd.R_tight rfl (Kd.R_mono (ok' := fun k_ => ((fun _ => True)) k_ ∧ k_ ≠ go15) (Kd.R_apart' (HO106.out) (Kd.S_typed HO_6.out) (by decide)) (fun k_ hk => ⟨trivial, fun e_ => (hk.2) (by rw [e_]; rfl)⟩))) (fun _ h_ => Or.inr (h_)))) (fun _ hk => hk) (fun k_ hk_ => ((Kd.R_mono (ok' := fun k_ => ((fun _ => True)) k_ ∧ k_ ≠ go15) (Kd.R_apart' (HO106.out) (Kd.S_typed HO_6.out) (by decide)) (fun k_ hk => ⟨trivial, fun e_ => (hk.2) (by rw [e_]; rfl)⟩))).1 k_ hk_.symm); have hx18_0 := hcc18 0 _ rfl; (try simp only [show ((Kd.slice 5 (Kd.int .u8))).sz = 1 from rfl, Nat.mul_one, Nat.add_zero] at hx18_0); have hf18_0 := hfr18 0; (try simp only [show ((Kd.slice 5 (Kd.int .u8))).sz = 1 from rfl, Nat.mul_one, Nat.add_zero] at hf18_0); (try clear hcl18); (try clear hcc18); (try clear hfr18); (try clear hM18); (try clear hoki18); (try clear hH18); (try simp only [show ((Kd.slice 5 (Kd.int .u8))).sz = 1 from rfl, Nat.mul_one, Nat.add_zero] at HP18)) | ((with_reducible refine gate_store (t := 24) (p := 25) rfl ?_); refine store_event (t := 24) (p := 25) (v := ?vo_w19) (w1 := (w16.setCell ⟨go15, (x18_1 : Int).toNat, none⟩ (v105))) ?hg ?ho ?hn ?hr ?_; (case ho => rfl); (case hg => rfl); (case hn => rfl); (case hr => first | (go_simp; done) | (go_simp; rfl) | (obtain ⟨Av_, cv_, ev_⟩ := Kd.R_slice HO106.out; subst ev_; first | (go_simp; done) | (go_simp; rfl))); intro w19 hw; have hg : w16.grownBy w19 (some go15) := (by rw [hw]; exact HP18.2); have hp_ : Kd.S (Kd.slice 5 (Kd.int .u8)) 24 w19 w.heap.size (fun _ => True) (.slice (some ⟨go15, 0, none⟩) x6_1.length co9) y107 := (by rw [hw, Ny107.out]; exact HP18.1); clear HP18; have n0_ := Aside0.mk (hp_); have n1_ := Aside0.mk ((by rw [hw]; exact below_set (HB.out) GB15.out : Below w.heap.size w w19)); clear HO_6; clear HB; clear HO106; have HO_6 := n0_; have HB := n1_; clear n0_ n1_; clear hg hw hp_))
                        (try simp only [← hl6_1])
                        go_roundg k1
                        case measure => have := HK1.out; omega
                        case rel => exact ⟨(y107), (wrap64 (x18_1 + 1)), (by first | rfl | (simp; done) | (simp [*]; done)), H', ⟨by have := HK1.out; omega⟩, ⟨by (try simp only [hl6_1]); (with_reducible repeat (first | apply Kd.S_alloc | apply Kd.S_drewN | apply Kd.S_drew)); exact HO_6.out⟩, ⟨by repeat (first | (with_reducible first | exact HB.out | apply below_alloc | apply pw_below_drewN | apply below_drew1) | exact HB.out)⟩⟩
                      · rw [if_neg c14] at H
                        exact absurd H (by simp)
                    · rw [if_neg c13] at H
                      exact absurd H (by simp)
                  · rw [if_neg c12] at H
                    exact absurd H (by simp)
                · rw [if_neg c11] at H
                  exact absurd H (by simp)
              · rw [if_neg c10] at H
                have c10b0 : decide (x18_1 < (y101.length : Int)) = false := decide_eq_false c10
                (try (have c10r := c10b0; simp only [hl6_1] at c10r))
                clear c10
                simp only [Option.some.injEq, Prod.mk.injEq] at H
                obtain ⟨rfl, rfl⟩ := H
                go_wp2
                go_ret2
                exact ⟨_, by first | rfl | (simp [errW_none, errW_some] <;> rfl) | (simp [*, errW_none, errW_some] <;> rfl), by (with_reducible repeat (first | apply Kd.S_alloc | apply Kd.S_drewN | apply Kd.S_drew)); exact HO_6.out, by repeat (first | (with_reducible first | exact HB.out | apply below_alloc | apply pw_below_drewN | apply below_drew1) | exact HB.out)⟩
        · rw [if_neg c6] at H
          exact absurd H (by simp)
      · rw [if_neg c5] at H
        exact absurd H (by simp)

/-! ### reedsolomon_vandermonde: function 45 -/
mutual
def reedsolomon_vandermonde.l0 : Nat → List (List Int) → Int → Int → Option ((List (List Int)) × Option Int)
  | 0, _, _, _ => none
  | k + 1, x6, x21, x22 => if x22 < x21 then (if 0 ≤ x22 then (if x22 < (x6.length : Int) then (reedsolomon_vandermonde.l1 k x6 x22 x21 x22 ((rd_L2 x6 x22).length : Int) 0) else (none)) else (none)) else (some (x6, none))
def reedsolomon_vandermonde.l1 : Nat → List (List Int) → Int → Int → Int → Int → Int → Option ((List (List Int)) × Option Int)
  | 0, _, _, _, _, _, _ => none
  | k + 1, x6, x8, x21, x22, x28, x29 => if x29 < x28 then (if 0 ≤ x8 then (if x8 < (x6.length : Int) then ((reedsolomon_galExp.f ((x8) % 256) x29).bind fun t115 => (if 0 ≤ x29 then (if x29 < ((rd_L2 x6 x8).length : Int) then (reedsolomon_vandermonde.l1 k (x6.set (x8 : Int).toNat ((rd_L2 x6 x8).set (x29 : Int).toNat t115)) x8 x21 x22 x28 (wrap64 (x29 + 1))) else (none)) else (none))) else (none)) else (none)) else (reedsolomon_vandermonde.l0 k x6 x21 (wrap64 (x22 + 1)))
end
def reedsolomon_vandermonde.f (k : Nat) (a0 : Int) (a1 : Int) : Option ((List (List Int)) × Option Int) := (reedsolomon_newMatrix.f k a0 a1).bind fun bt108 => (if bt108.2.isNone = true then (reedsolomon_vandermonde.l0 k bt108.1 (bt108.1.length : Int) 0) else (some (([] : List (List Int)), some (bt108.2.getD 0))))
theorem reedsolomon_vandermonde.mono_l : ∀ k, (∀ y0 y1 y2, LeO (reedsolomon_vandermonde.l0 k y0 y1 y2) (reedsolomon_vandermonde.l0 (k + 1) y0 y1 y2)) ∧ (∀ y0 y1 y2 y3 y4 y5, LeO (reedsolomon_vandermonde.l1 k y0 y1 y2 y3 y4 y5) (reedsolomon_vandermonde.l1 (k + 1) y0 y1 y2 y3 y4 y5))
  | 0 => ⟨fun _ _ _ r h => by simp [reedsolomon_vandermonde.l0] at h, fun _ _ _ _ _ _ r h => by simp [reedsolomon_vandermonde.l1] at h⟩
  | k + 1 => by
    obtain ⟨ih0, ih1⟩ := reedsolomon_vandermonde.mono_l k
    refine ⟨?_, ?_⟩
    · intro y0 y1 y2
      unfold reedsolomon_vandermonde.l0
      repeat' first
      | (with_reducible exact ih0 _ _ _)
      | (with_reducible exact ih1 _ _ _ _ _ _)
      | (with_reducible exact reedsolomon_newMatrix.mono _ _ _)
      | (with_reducible exact LeO.refl _)
      | (with_reducible exact LeO.none _)
      | (with_reducible refine LeO.ite ?_ ?_)
      | (with_reducible refine LeO.bind ?_ (fun _ => ?_))
      | exact ih0 _ _ _
      | exact ih1 _ _ _ _ _ _
      | exact reedsolomon_newMatrix.mono _ _ _
      | exact LeO.none _
      | refine LeO.ite ?_ ?_
      | refine LeO.bind ?_ (fun _ => ?_)
    · intro y0 y1 y2 y3 y4 y5
      unfold reedsolomon_vandermonde.l1
      repeat' first
      | (with_reducible exact ih0 _ _ _)
      | (with_reducible exact ih1 _ _ _ _ _ _)
      | (with_reducible exact reedsolomon_newMatrix.mono _ _ _)
      | (with_reducible exact LeO.refl _)
      | (with_reducible exact LeO.none _)
      | (with_reducible refine LeO.ite ?_ ?_)
      | (with_reducible refine LeO.bind ?_ (fun _ => ?_))
      | exact ih0 _ _ _
      | exact ih1 _ _ _ _ _ _
      | exact reedsolomon_newMatrix.mono _ _ _
      | exact LeO.none _
      | refine LeO.ite ?_ ?_
      | refine LeO.bind ?_ (fun _ => ?_)
theorem reedsolomon_vandermonde.mono : ∀ a0 a1 k, LeO (reedsolomon_vandermonde.f k a0 a1) (reedsolomon_vandermonde.f (k + 1) a0 a1) := by
  intro a0 a1 k
  obtain ⟨ih0, ih1⟩ := reedsolomon_vandermonde.mono_l k
  unfold reedsolomon_vandermonde.f
  repeat' first
      | (with_reducible exact ih0 _ _ _)
      | (with_reducible exact ih1 _ _ _ _ _ _)
      | (with_reducible exact reedsolomon_newMatrix.mono _ _ _)
      | (with_reducible exact LeO.refl _)
      | (with_reducible exact LeO.none _)
      | (with_reducible refine LeO.ite ?_ ?_)
      | (with_reducible refine LeO.bind ?_ (fun _ => ?_))
      | exact ih0 _ _ _
      | exact ih1 _ _ _ _ _ _
      | exact reedsolomon_newMatrix.mono _ _ _
      | exact LeO.none _
      | refine LeO.ite ?_ ?_
      | refine LeO.bind ?_ (fun _ => ?_)
def reedsolomon_vandermonde.T10 : Bool × List (List Nat × List Nat) := (true, [([], []), ([], []), ([0, 1], [0, 1]), ([2], [2]), ([], []), ([], []), ([5], [5]), ([], []), ([6, 7], [6, 7]), ([3, 4, 0, 1, 2, 3, 4, 5, 6, 7, 8], [3, 4]), ([9, 8, 8, 0, 1, 2, 3, 4, 5, 6, 7, 8], [8, 9])])
def reedsolomon_vandermonde.B10 : List Nat := [0, 0, 3, 7, 0, 0, 32, 0, 224, 511, 1023]
theorem reedsolomon_vandermonde.tab10 : rtab .any (opsOf Tryd.f45 10) = reedsolomon_vandermonde.T10 := by kernel_rfl
theorem reedsolomon_vandermonde.bits10 : waitsOk reedsolomon_vandermonde.T10.2 reedsolomon_vandermonde.B10 = true := by kernel_rfl
set_option maxHeartbeats 8000000 in
set_option maxRecDepth 100000 in
theorem reedsolomon_vandermonde.calls (k : Nat) (a0 : Int) (a1 : Int) (r1 : List (List Int)) (r2 : Option Int) (w : World) (HG_ : Glob w) (h : reedsolomon_vandermonde.f k a0 a1 = some (r1, r2)) :
    Calls Tryd.prog 45 #[.int .i64 a0, .int .i64 a1] w fun e w' => ∃ v0_ : Value, e = .returned (.tuple #[v0_, errW r2]) ∧ Kd.S (Kd.slice 5 (Kd.int .u8)) 24 w' w.heap.size (fun _ => True) v0_ r1 ∧ Below w.heap.size w w' := by
  have hu46 := Tryd.underlying46
  have HG := Aside0.mk HG_
  clear HG_
  have HB := Aside0.mk (Below.refl w.heap.size w)
  have H : ((reedsolomon_newMatrix.f k a0 a1).bind fun bt108 => (if bt108.2.isNone = true then (reedsolomon_vandermonde.l0 k bt108.1 (bt108.1.length : Int) 0) else (some (([] : List (List Int)), some (bt108.2.getD 0))))) = some (r1, r2) := h
  clear h
  replace H := Option.bind_eq_some_iff.mp H
  obtain ⟨⟨t108, t109⟩, A30, H⟩ := H
  replace H : (if t109.isNone = true then (reedsolomon_vandermonde.l0 k t108 (t108.length : Int) 0) else (some (([] : List (List Int)), some (t109.getD 0)))) = some (r1, r2) := H
  have A3 := Aside0.mk A30
  clear A30
  rcases t109 with _ | q112
  · have H1 : (reedsolomon_vandermonde.l0 k t108 (t108.length : Int) 0) = some (r1, r2) := by rw [if_pos (show (none : Option Int).isNone = true by rfl)] at H; exact H
    clear H
    have H := H1
    clear H1
    try simp only [errW_none, errW_some]
    have H' := Aside0.mk H
    clear H
    go_enter Tryd.func45, Tryd.ntmps45
    go_wp2_with (first | ((with_reducible refine gate_callee (f := 53) rfl ?_); refine goesL_ (some 14) rfl rfl Tryd.func53 (by kernel_rfl) rfl #[.int .i64 a0, .int .i64 a1] rfl (by (try simp only [List.map_toArray, List.map_cons, List.map_nil]); first | done | rfl | (simp only [List.length_drop, List.length_take]; rfl)) ?_; (with_reducible refine (reedsolomon_newMatrix.calls k a0 a1 t108 none _ A3.out).mono ?_); rintro e w4 ⟨v110, rfl, ho0, hb⟩; refine ⟨_, rfl, ?_⟩; have n0_ := Aside0.mk (Kd.S_lower ho0 (below_size (by repeat (first | (with_reducible first | exact HB.out | apply below_alloc | apply pw_below_drewN | apply below_drew1) | exact HB.out)))); have n1_ := Aside0.mk (below_step (by repeat (first | (with_reducible first | exact HB.out | apply below_alloc | apply pw_below_drewN | apply below_drew1) | exact HB.out)) hb); clear HB; have HO111 := n0_; have HB := n1_; clear n0_ n1_; (try clear hb); (try clear hb2); (try clear hk); (try clear hi); (try clear ho0); (try simp only [errW_none, errW_some]); obtain ⟨Ao5, co5, eo5⟩ := Kd.S_slice HO111.out; subst eo5))
    (try simp only [Act.put, List.setIfInBounds_toArray, List.set_cons_zero, List.set_cons_succ])
    go_loopg [22] k (fun kq v22 w' => ∃ (x6_1 : List (List Int)) (x22_1 : Int), v22 = .int .i64 x22_1 ∧ Aside0 (reedsolomon_vandermonde.l0 kq x6_1 (t108.length : Int) x22_1 = some (r1, r2)) ∧ Aside0 (kq ≤ k) ∧ Aside0 (Kd.S (Kd.slice 5 (Kd.int .u8)) 24 w' w.heap.size (fun _ => True) (.slice Ao5 t108.length co5) x6_1) ∧ Aside0 (Below w.heap.size w w'))
    case atStart => exact ⟨(t108), (0), (by first | rfl | (simp; done) | (simp [*]; done)), H', ⟨Nat.le_refl _⟩, ⟨by (with_reducible repeat (first | apply Kd.S_alloc | apply Kd.S_drewN | apply Kd.S_drew)); exact HO111.out⟩, ⟨by repeat (first | (with_reducible first | exact HB.out | apply below_alloc | apply pw_below_drewN | apply below_drew1) | exact HB.out)⟩⟩
    case round =>
      clear H'
      try clear q1
      try clear p2
      try clear c4
      try clear c5
      try clear q112
      obtain ⟨x6_1, x22_1, rfl, HA, HK1, HO_6, HB⟩ := hrel
      have hl6_1 := (Kd.S_reads' HO_6.out).1
      rw [hl6_1] at HO_6
      (try simp only [hl6_1])
      cases gk with
      | zero => exact absurd HA.out (by simp [reedsolomon_vandermonde.l0])
      | succ k1 =>
        have H := HA.out
        clear HA
        simp only [reedsolomon_vandermonde.l0] at H
        by_cases c6 : x22_1 < (t108.length : Int)
        · rw [if_pos c6] at H
          have c6b0 : decide (x22_1 < (t108.length : Int)) = true := decide_eq_true c6
          clear c6
          by_cases c7 : 0 ≤ x22_1
          · rw [if_pos c7] at H
            have c7b0 : decide (0 ≤ x22_1) = true := decide_eq_true c7
            clear c7
            by_cases c8 : x22_1 < (x6_1.length : Int)
            · rw [if_pos c8] at H
              have c8b0 : decide (x22_1 < (x6_1.length : Int)) = true := decide_eq_true c8
              clear c8
              have H' := Aside0.mk H
              clear H
              have p113 : 0 ≤ (x22_1 : Int) := of_decide_eq_true (by first | (with_reducible assumption) | assumption)
              have q113 : x22_1 < (x6_1.length : Int) := of_decide_eq_true (by first | (with_reducible assumption) | assumption)
              obtain ⟨ad113, A113_0, c113_0, e113, hx113_0, hl113_0, hi113_0⟩ := at_L2 (Kd.S_reads' HO_6.out).2.2 x22_1 p113 q113
              cases e113
              obtain ⟨ce113, hce113, hMe113, hcc113⟩ := Kd.S_get HO_6.out [] x22_1 p113 (by first | exact q113 | exact of_decide_eq_true (by first | (with_reducible assumption) | assumption) | (have e_ := (Kd.S_reads' HO_6.out).1; omega))
              obtain ⟨ve113_0, rfl, ge113_0⟩ := hMe113
              have hv113_0 := hcc113 0 _ rfl
              rw [Nat.add_zero, show ((Kd.slice 5 (Kd.int .u8))).sz = 1 from rfl, Nat.mul_one] at hv113_0
              replace hv113_0 := Option.some.inj (hv113_0.symm.trans hx113_0)
              rw [hv113_0] at ge113_0
              have HL113_0 := Aside0.mk (show Kd.R (Kd.int .u8) 5 _ _ _ _ (rd_L2 x6_1 x22_1) from ge113_0)
              clear hv113_0 ge113_0
              have HX113_0 := Aside0.mk hx113_0
              clear hcc113 hce113
              have HR113_0 := Aside0.mk hi113_0
              have HC113_0 := Aside0.mk hl113_0
              clear hi113_0 hl113_0
              replace p113 := eq_true p113
              replace q113 := eq_true q113
              go_wp2
              (try simp only [Act.put, List.setIfInBounds_toArray, List.set_cons_zero, List.set_cons_succ])
              go_loopg [29] k1 (fun kq v29 w' => ∃ (x6_2 : List (List Int)) (x29_2 : Int), v29 = .int .i64 x29_2 ∧ Aside0 (reedsolomon_vandermonde.l1 kq x6_2 x22_1 (t108.length : Int) x22_1 ((rd_L2 x6_1 x22_1).length : Int) x29_2 = some (r1, r2)) ∧ Aside0 (kq ≤ k1) ∧ Aside0 (Kd.S (Kd.slice 5 (Kd.int .u8)) 24 w' w.heap.size (fun _ => True) (.slice (some ad113) x6_1.length co5) x6_2) ∧ Aside0 (Below w.heap.size w w'))
              case atStart => exact ⟨(x6_1), (0), (by first | rfl | (simp; done) | (simp [*]; done)), H', ⟨Nat.le_refl _⟩, ⟨by (try simp only [hl6_1]); (with_reducible repeat (first | apply Kd.S_alloc | apply Kd.S_drewN | apply Kd.S_drew)); exact HO_6.out⟩, ⟨by repeat (first | (with_reducible first | exact HB.out | apply below_alloc | apply pw_below_drewN | apply below_drew1) | exact HB.out)⟩⟩
              case round =>
                clear H'
                try clear c1
                try clear p1
                try clear q1
                try clear hx1
                try clear p2
                try clear c4
                try clear c5
                try clear c6
                try clear c6b0
                try clear c7
                try clear c7b0
                try clear c8
                try clear c8b0
                try clear hx113_0
                try clear p113
                try clear p2
                try clear q1
                try clear q112
                try clear q113
                obtain ⟨x6_2, x29_2, rfl, HA, HK2, HO_6, HB⟩ := hrel
                have hl6_2 := (Kd.S_reads' HO_6.out).1
                rw [hl6_2] at HO_6
                (try simp only [hl6_2])
                cases gk with
                | zero => exact absurd HA.out (by simp [reedsolomon_vandermonde.l1])
                | succ k2 =>
                  have H := HA.out
                  clear HA
                  simp only [reedsolomon_vandermonde.l1] at H
                  by_cases c9 : x29_2 < ((rd_L2 x6_1 x22_1).length : Int)
                  · rw [if_pos c9] at H
                    have c9b0 : decide (x29_2 < ((rd_L2 x6_1 x22_1).length : Int)) = true := decide_eq_true c9
                    clear c9
                    by_cases c10 : 0 ≤ x22_1
                    · rw [if_pos c10] at H
                      have c10b0 : decide (0 ≤ x22_1) = true := decide_eq_true c10
                      clear c10
                      by_cases c11 : x22_1 < (x6_2.length : Int)
                      · rw [if_pos c11] at H
                        have c11b0 : decide (x22_1 < (x6_2.length : Int)) = true := decide_eq_true c11
                        clear c11
                        replace H := Option.bind_eq_some_iff.mp H
                        obtain ⟨t115, A120, H⟩ := H
                        replace H : (if 0 ≤ x29_2 then (if x29_2 < ((rd_L2 x6_2 x22_1).length : Int) then (reedsolomon_vandermonde.l1 k2 (x6_2.set (x22_1 : Int).toNat ((rd_L2 x6_2 x22_1).set (x29_2 : Int).toNat t115)) x22_1 (t108.length : Int) x22_1 ((rd_L2 x6_1 x22_1).length : Int) (wrap64 (x29_2 + 1))) else (none)) else (none)) = some (r1, r2) := H
                        have A12 := Aside0.mk A120
                        clear A120
                        by_cases c13 : 0 ≤ x29_2
                        · rw [if_pos c13] at H
                          have c13b0 : decide (0 ≤ x29_2) = true := decide_eq_true c13
                          clear c13
                          by_cases c14 : x29_2 < ((rd_L2 x6_2 x22_1).length : Int)
                          · rw [if_pos c14] at H
                            have c14b0 : decide (x29_2 < ((rd_L2 x6_2 x22_1).length : Int)) = true := decide_eq_true c14
                            clear c14
                            obtain ⟨y116, hy116⟩ : ∃ y_ : List Int, y_ = ((rd_L2 x6_2 x22_1).set (x29_2 : Int).toNat t115) := ⟨_, rfl⟩
                            replace H : (reedsolomon_vandermonde.l1 k2 (x6_2.set (x22_1 : Int).toNat y116) x22_1 (t108.length : Int) x22_1 ((rd_L2 x6_1 x22_1).length : Int) (wrap64 (x29_2 + 1))) = some (r1, r2) := by first | (rw [hy116]; with_reducible exact H) | (have H2_ := (Option.bind_some _ _).symm.trans H; rw [hy116]; with_reducible exact H2_) | (have H2_ := (Option.bind_some _ _).symm.trans H; with_reducible exact H2_) | with_reducible exact H | (rw [hy116]; exact H) | exact H
                            have Ny116 := Aside0.mk hy116
                            clear hy116
                            obtain ⟨y118, hy118⟩ : ∃ y_ : List (List Int), y_ = (x6_2.set (x22_1 : Int).toNat y116) := ⟨_, rfl⟩
                            replace H : (reedsolomon_vandermonde.l1 k2 y118 x22_1 (t108.length : Int) x22_1 ((rd_L2 x6_1 x22_1).length : Int) (wrap64 (x29_2 + 1))) = some (r1, r2) := by first | (rw [hy118]; with_reducible exact H) | (have H2_ := (Option.bind_some _ _).symm.trans H; rw [hy118]; with_reducible exact H2_) | (have H2_ := (Option.bind_some _ _).symm.trans H; with_reducible exact H2_) | with_reducible exact H | (rw [hy118]; exact H) | exact H
                            have Ny118 := Aside0.mk hy118
                            clear hy118
                            have H' := Aside0.mk H
                            clear H
                            try go_wp2
                            have n0_ := Aside0.mk (Kd.S_drew HO_6.out)
                            have n1_ := Aside0.mk (below_drew1 HB.out)
                            clear HO_6
                            clear HB
                            have HO_6 := n0_
                            have HB := n1_
                            clear n0_ n1_
                            have p114 : 0 ≤ (x22_1 : Int) := of_decide_eq_true (by first | (with_reducible assumption) | assumption)
                            have q114 : x22_1 < (x6_2.length : Int) := of_decide_eq_true (by first | (with_reducible assumption) | assumption)
                            obtain ⟨ad114, A114_0, c114_0, e114, hx114_0, hl114_0, hi114_0⟩ := at_L2 (Kd.S_reads' HO_6.out).2.2 x22_1 p114 q114
                            obtain rfl : ad113 = ad114 := (by injection e114)
                            obtain ⟨ce114, hce114, hMe114, hcc114⟩ := Kd.S_get HO_6.out [] x22_1 p114 (by first | exact q114 | exact of_decide_eq_true (by first | (with_reducible assumption) | assumption) | (have e_ := (Kd.S_reads' HO_6.out).1; omega))
                            obtain ⟨ve114_0, rfl, ge114_0⟩ := hMe114
                            have hv114_0 := hcc114 0 _ rfl
                            rw [Nat.add_zero, show ((Kd.slice 5 (Kd.int .u8))).sz = 1 from rfl, Nat.mul_one] at hv114_0
                            replace hv114_0 := Option.some.inj (hv114_0.symm.trans hx114_0)
                            rw [hv114_0] at ge114_0
                            have HL114_0 := Aside0.mk (show Kd.R (Kd.int .u8) 5 _ _ _ _ (rd_L2 x6_2 x22_1) from ge114_0)
                            clear hv114_0 ge114_0
                            have HX114_0 := Aside0.mk hx114_0
                            clear hcc114 hce114
                            have HR114_0 := Aside0.mk hi114_0
                            have HC114_0 := Aside0.mk hl114_0
                            clear hi114_0 hl114_0
                            replace p114 := eq_true p114
                            replace q114 := eq_true q114
                            refine start_ (n := 11) (S := fun w' => w'.cell? (ad113.add (x22_1).toNat) = some (.slice A114_0 (rd_L2 x6_2 x22_1).length c114_0)) (ds := [10]) #[false, false, false, false, false, false, false, false, false, false, false] (by kernel_rfl) rfl rfl (hx114_0) (fun hHeld => ?_); refine with_tabW reedsolomon_vandermonde.tab10 reedsolomon_vandermonde.bits10 (fun HT_ HW_ => ?_)
                            generalize wr.drew = w16 at HO_6 HB HL114_0 HR114_0 HX114_0 hx114_0 hHeld ⊢
                            refine pure_ (i := 0) (N := some 32) (v := ?_) (a' := ?_) #[true, false, false, false, false, false, false, false, false, false, false] rfl rfl (any_of HT_.out (by kernel_rfl)) (fun _ _ _ h => h) (Or.inl ⟨by rfl, ?_⟩) ?_ ?_
                            rotate_left
                            · intro w'
                              go_simp
                              with_reducible rfl
                            rotate_left
                            · simp only [Act.put, List.setIfInBounds_toArray, List.set_cons_zero, List.set_cons_succ, i64_w, i32_w]
                              rfl
                            refine pure_ (i := 1) (N := some 33) (v := ?_) (a' := ?_) #[true, true, false, false, false, false, false, false, false, false, false] rfl rfl (any_of HT_.out (by kernel_rfl)) (fun _ _ _ h => h) (Or.inl ⟨by rfl, ?_⟩) ?_ ?_
                            rotate_left
                            · intro w'
                              go_simp
                              with_reducible rfl
                            rotate_left
                            · simp only [Act.put, List.setIfInBounds_toArray, List.set_cons_zero, List.set_cons_succ, i64_w, i32_w]
                              rfl
                            refine pure_ (i := 2) (N := some 34) (v := ?_) (a' := ?_) #[true, true, true, false, false, false, false, false, false, false, false] rfl rfl (any_of HT_.out (by kernel_rfl)) (fun _ _ _ h => h) (Or.inl ⟨by rfl, ?_⟩) ?_ ?_
                            rotate_left
                            · intro w'
                              go_simp
                              with_reducible rfl
                            rotate_left
                            · simp only [Act.put, List.setIfInBounds_toArray, List.set_cons_zero, List.set_cons_succ, i64_w, i32_w]
                              rfl
                            refine pure_ (i := 4) (N := some 36) (v := ?_) (a' := ?_) #[true, true, true, false, true, false, false, false, false, false, false] rfl rfl (any_of HT_.out (by kernel_rfl)) (fun _ _ _ h => h) (Or.inl ⟨by rfl, ?_⟩) ?_ ?_
                            rotate_left
                            · intro w'
                              go_simp
                              with_reducible rfl
                            rotate_left
                            · simp only [Act.put, List.setIfInBounds_toArray, List.set_cons_zero, List.set_cons_succ, i64_w, i32_w]
                              rfl
                            refine pure_ (i := 5) (N := some 37) (v := ?_) (a' := ?_) #[true, true, true, false, true, true, false, false, false, false, false] rfl rfl (any_of HT_.out (by kernel_rfl)) (fun _ _ _ h => h) (Or.inl ⟨by rfl, ?_⟩) ?_ ?_
                            rotate_left
                            · intro w'
                              go_simp
                              with_reducible rfl
                            rotate_left
                            · simp only [Act.put, List.setIfInBounds_toArray, List.set_cons_zero, List.set_cons_succ, i64_w, i32_w]
                              rfl
                            refine pure_ (i := 6) (N := some 38) (v := ?_) (a' := ?_) #[true, true, true, false, true, true, true, false, false, false, false] rfl rfl (any_of HT_.out (by kernel_rfl)) (fun _ _ _ h => h) (Or.inl ⟨by rfl, ?_⟩) ?_ ?_
                            rotate_left
                            · intro w'
                              go_simp
                              with_reducible rfl
                            rotate_left
                            · simp only [Act.put, List.setIfInBounds_toArray, List.set_cons_zero, List.set_cons_succ, i64_w, i32_w]
                              rfl
                            refine pure_ (i := 7) (N := some 39) (v := ?_) (a' := ?_) #[true, true, true, false, true, true, true, true, false, false, false] rfl rfl (any_of HT_.out (by kernel_rfl)) (fun _ _ _ h => h) (Or.inl ⟨by rfl, ?_⟩) ?_ ?_
                            rotate_left
                            · intro w'
                              go_simp
                              with_reducible rfl
                            rotate_left
                            · simp only [Act.put, List.setIfInBounds_toArray, List.set_cons_zero, List.set_cons_succ, i64_w, i32_w]
                              rfl
                            refine take_ (i := 3) (N := some 35) (v := ?_) (a' := ?_) #[true, true, true, true, true, true, true, true, false, false, false] rfl rfl (take_ofW HT_.out HW_.out (by kernel_rfl)) (fun _ _ _ h => h) (Or.inl ⟨by rfl, ?_⟩) hHeld ?_ ?_
                            rotate_left
                            · intro w' s0
                              go_simp
                              with_reducible rfl
                            rotate_left
                            · simp only [Act.put, List.setIfInBounds_toArray, List.set_cons_zero, List.set_cons_succ, i64_w, i32_w]
                              rfl
                            refine one_ (i := 8) (N := some 40) #[true, true, true, true, true, true, true, true, true, false, false] rfl rfl (one_of HT_.out (by kernel_rfl)) (by decide) (fun K hK => ?_)
                            refine goes_ Tryd.func44 (by kernel_rfl) rfl #[.int .u8 ((x22_1) % 256), .int .i64 x29_2] (by rfl) rfl rfl (by (try simp only [List.map_toArray, List.map_cons, List.map_nil]); first | done | rfl | (simp only [List.length_drop, List.length_take]; rfl)) ?_
                            with_reducible refine (reedsolomon_galExp.calls ((x22_1) % 256) x29_2 t115 _ ?side1 A12.out).mono ?_
                            (case side1 => first | exact HG.out | exact Glob.drewN HG.out _ | exact Glob.below HG.out (by repeat (first | (with_reducible first | exact HB.out | apply below_alloc | apply pw_below_drewN | apply below_drew1) | exact HB.out)))
                            rintro e w' ⟨rfl, ⟨nd, rfl⟩⟩
                            refine ⟨_, rfl, ?_⟩
                            have p15 : 0 ≤ (x29_2 : Int) := of_decide_eq_true (by first | (with_reducible assumption) | assumption)
                            have q15 : (x29_2 : Int) < (((rd_L2 x6_2 x22_1).length : Int) : Int) := of_decide_eq_true (by first | (with_reducible assumption) | assumption)
                            obtain ⟨go15, co15, eo15, gb15, gl15, cl15, HG15⟩ := Kd.R_form HL114_0.out (by omega)
                            (first | cases eo15 | (injection eo15 with ea_ en_ ec_; (first | subst ea_ | (injection ea_ with ea_; subst ea_)); subst ec_; clear en_))
                            have GB15 := Aside0.mk gb15
                            have GG15 := Aside0.mk HG15
                            clear gb15 gl15 HG15
                            obtain ⟨hx15_0, hf15_0⟩ := Kd.R_celln 0 HL114_0.out (x29_2 : Int) p15 q15
                            replace p15 := eq_true p15
                            replace q15 := eq_true q15
                            have hq17 : (x22_1 : Int) < (x6_2.length : Int) := (by have h_ : (x22_1 : Int) < ((x6_2.length : Int) : Int) := of_decide_eq_true (by first | (with_reducible assumption) | assumption); first | exact h_ | (have e_ := (Kd.S_reads' HO_6.out).1; omega) | simpa only [List.length_set, List.length_set] using h_)
                            obtain ⟨oki17, ce17, hcl17, hM17, hcc17, hok17, hbk17⟩ := Kd.S_borrow HO_6.out [] (x22_1 : Int) (of_decide_eq_true (by first | (with_reducible assumption) | assumption)) hq17
                            obtain ⟨ve17_0, rfl, ge17_0⟩ := hM17
                            have hv17 := hcc17 0 _ rfl
                            rw [Nat.add_zero, show ((Kd.slice 5 (Kd.int .u8))).sz = 1 from rfl, Nat.mul_one] at hv17
                            replace hv17 := Option.some.inj (hv17.symm.trans HX114_0.out)
                            subst hv17
                            clear hcc17 hcl17
                            replace ge17_0 := (show Kd.R (Kd.int .u8) 5 _ _ _ _ (rd_L2 x6_2 x22_1) from ge17_0)
                            have HP17 := Kd.R_putg ge17_0 (x29_2 : Int) t115
                            rw [← Ny116.out] at HP17
                            have HS17 := hbk17 HP17.2 (fun k_ e_ => by injection e_ with e_; subst e_; exact ge17_0.1 _ rfl) (x' := y116) (Kd.M_row HP17.1)
                            rw [← Ny118.out] at HS17
                            have HQ17 := Aside0.mk HS17
                            clear HP17 HS17 hbk17 hok17
                            refine hK.out _ _ (hHeld) (fun hHeld => ?_)
                            clear hK K
                            refine norm_ (a' := ?_) ?_ ?_
                            rotate_left
                            · show Act.put _ (some 40) _ = _
                              simp only [Act.put, List.setIfInBounds_toArray, List.set_cons_zero, List.set_cons_succ, i64_w, i32_w]
                              rfl
                            refine pure_ (i := 9) (N := some 41) (v := ?_) (a' := ?_) #[true, true, true, true, true, true, true, true, true, true, false] rfl rfl (any_of HT_.out (by kernel_rfl)) (fun _ _ _ h => h) (Or.inl ⟨by rfl, ?_⟩) ?_ ?_
                            rotate_left
                            · intro w'
                              go_simp
                              with_reducible rfl
                            rotate_left
                            · simp only [Act.put, List.setIfInBounds_toArray, List.set_cons_zero, List.set_cons_succ, i64_w, i32_w]
                              rfl
                            refine last_ (i := 10) (N := none) #[true, true, true, true, true, true, true, true, true, true, true] rfl rfl (one_of HT_.out (by kernel_rfl)) (by decide) (fun K hK => ?_)
                            refine skip_ (w1 := ?_) (by rfl) rfl ?_ ?_
                            rotate_left
                            · go_simp
                              rfl
                            refine hK.out _ _ ?_
                            clear hK K
                            refine done_ (done_of HT_.out (by kernel_rfl)) ?_
                            try go_wp2
                            (try simp only [← hl6_2])
                            go_roundg k2
                            case measure => have := HK1.out; have := HK2.out; omega
                            case rel => exact ⟨(y118), (wrap64 (x29_2 + 1)), (by first | rfl | (simp; done) | (simp [*]; done)), H', ⟨by have := HK1.out; have := HK2.out; omega⟩, ⟨by (try simp only [hl6_1]); (try simp only [hl6_2]); (with_reducible repeat (first | apply Kd.S_alloc | apply Kd.S_drewN | apply Kd.S_drew)); exact HQ17.out⟩, ⟨by repeat (first | (with_reducible first | exact HB.out | apply below_alloc | apply pw_below_drewN | apply below_drew1 | refine below_set ?_ GB15.out) | exact HB.out)⟩⟩
                          · rw [if_neg c14] at H
                            exact absurd H (by simp)
                        · rw [if_neg c13] at H
                          exact absurd H (by simp)
                      · rw [if_neg c11] at H
                        exact absurd H (by simp)
                    · rw [if_neg c10] at H
                      exact absurd H (by simp)
                  · rw [if_neg c9] at H
                    have c9b0 : decide (x29_2 < ((rd_L2 x6_1 x22_1).length : Int)) = false := decide_eq_false c9
                    clear c9
                    have H' := Aside0.mk H
                    clear H
                    go_wp2
                    (try simp only [← hl6_1, ← hl6_2])
                    go_roundg k2
                    case measure => have := HK1.out; have := HK2.out; omega
                    case rel => exact ⟨(x6_2), (wrap64 (x22_1 + 1)), (by first | rfl | (simp; done) | (simp [*]; done)), H', ⟨by have := HK1.out; have := HK2.out; omega⟩, ⟨by (try simp only [hl6_1]); (try simp only [hl6_2]); (with_reducible repeat (first | apply Kd.S_alloc | apply Kd.S_drewN | apply Kd.S_drew)); exact HO_6.out⟩, ⟨by repeat (first | (with_reducible first | exact HB.out | apply below_alloc | apply pw_below_drewN | apply below_drew1) | exact HB.out)⟩⟩
            · rw [if_neg c8] at H
              exact absurd H (by simp)
          · rw [if_neg c7] at H
            exact absurd H (by simp)
        · rw [if_neg c6] at H
          have c6b0 : decide (x22_1 < (t108.length : Int)) = false := decide_eq_false c6
          (try (have c6r := c6b0; simp only [hl6_1] at c6r))
          clear c6
          simp only [Option.some.injEq, Prod.mk.injEq] at H
          obtain ⟨rfl, rfl⟩ := H
          go_wp2
          go_ret2
          exact ⟨_, by first | rfl | (simp [errW_none, errW_some] <;> rfl) | (simp [*, errW_none, errW_some] <;> rfl), by (with_reducible repeat (first | apply Kd.S_alloc | apply Kd.S_drewN | apply Kd.S_drew)); exact HO_6.out, by repeat (first | (with_reducible first | exact HB.out | apply below_alloc | apply pw_below_drewN | apply below_drew1) | exact HB.out)⟩
  · have H1 : (some (([] : List (List Int)), some q112)) = some (r1, r2) := by rw [if_neg (show ¬ (some q112).isNone = true by simp)] at H; exact H
    clear H
    have H := H1
    clear H1
    try simp only [errW_none, errW_some]
    simp only [Option.some.injEq, Prod.mk.injEq] at H
    obtain ⟨rfl, rfl⟩ := H
    go_enter Tryd.func45, Tryd.ntmps45
    go_wp2_with (first | ((with_reducible refine gate_callee (f := 53) rfl ?_); refine goesL_ (some 14) rfl rfl Tryd.func53 (by kernel_rfl) rfl #[.int .i64 a0, .int .i64 a1] rfl (by (try simp only [List.map_toArray, List.map_cons, List.map_nil]); first | done | rfl | (simp only [List.length_drop, List.length_take]; rfl)) ?_; (with_reducible refine (reedsolomon_newMatrix.calls k a0 a1 t108 (some q112) _ A3.out).mono ?_); rintro e w19 ⟨v110, rfl, ho0, hb⟩; refine ⟨_, rfl, ?_⟩; have n0_ := Aside0.mk (Kd.S_lower ho0 (below_size (by repeat (first | (with_reducible first | exact HB.out | apply below_alloc | apply pw_below_drewN | apply below_drew1) | exact HB.out)))); have n1_ := Aside0.mk (below_step (by repeat (first | (with_reducible first | exact HB.out | apply below_alloc | apply pw_below_drewN | apply below_drew1) | exact HB.out)) hb); clear HB; have HO111 := n0_; have HB := n1_; clear n0_ n1_; (try clear hb); (try clear hb2); (try clear hk); (try clear hi); (try clear ho0); (try simp only [errW_none, errW_some])))
    go_ret2
    exact ⟨_, by first | rfl | (simp [errW_none, errW_some] <;> rfl) | (simp [*, errW_none, errW_some] <;> rfl), by first | exact Kd.S_nil _ _ _ _ _ | exact Kd.N_nil _ _ _ _ _ | exact Kd.V_nil _ _ _ _ _ | exact Kd.Q_nil _ _ _ _ _ | exact Kd.R_nil _ _ _ _ _, by repeat (first | (with_reducible first | exact HB.out | apply below_alloc | apply pw_below_drewN | apply below_drew1) | exact HB.out)⟩

/-! ### reedsolomon_DoorVandermonde: function 30 -/
def reedsolomon_DoorVandermonde.f (k : Nat) (a0 : Int) (a1 : Int) : Option ((List (List Int)) × Option Int) := (reedsolomon_vandermonde.f k a0 a1).bind fun bt119 => (some (bt119.1, bt119.2))
theorem reedsolomon_DoorVandermonde.mono : ∀ a0 a1 k, LeO (reedsolomon_DoorVandermonde.f k a0 a1) (reedsolomon_DoorVandermonde.f (k + 1) a0 a1) := by
  intro a0 a1 k
  unfold reedsolomon_DoorVandermonde.f
  repeat' first
      | (with_reducible exact reedsolomon_vandermonde.mono _ _ _)
      | (with_reducible exact LeO.refl _)
      | (with_reducible exact LeO.none _)
      | (with_reducible refine LeO.ite ?_ ?_)
      | (with_reducible refine LeO.bind ?_ (fun _ => ?_))
      | exact reedsolomon_vandermonde.mono _ _ _
      | exact LeO.none _
      | refine LeO.ite ?_ ?_
      | refine LeO.bind ?_ (fun _ => ?_)
set_option maxHeartbeats 8000000 in
set_option maxRecDepth 100000 in
theorem reedsolomon_DoorVandermonde.calls (k : Nat) (a0 : Int) (a1 : Int) (r1 : List (List Int)) (r2 : Option Int) (w : World) (HG_ : Glob w) (h : reedsolomon_DoorVandermonde.f k a0 a1 = some (r1, r2)) :
    Calls Tryd.prog 30 #[.int .i64 a0, .int .i64 a1] w fun e w' => ∃ v0_ : Value, e = .returned (.tuple #[v0_, errW r2]) ∧ Kd.S (Kd.slice 5 (Kd.int .u8)) 24 w' w.heap.size (fun _ => True) v0_ r1 ∧ Below w.heap.size w w' := by
  have HG := Aside0.mk HG_
  clear HG_
  have HB := Aside0.mk (Below.refl w.heap.size w)
  have H : ((reedsolomon_vandermonde.f k a0 a1).bind fun bt119 => (some (bt119.1, bt119.2))) = some (r1, r2) := h
  clear h
  replace H := Option.bind_eq_some_iff.mp H
  obtain ⟨⟨t119, t120⟩, A30, H⟩ := H
  replace H : (some (t119, t120)) = some (r1, r2) := H
  have A3 := Aside0.mk A30
  clear A30
  simp only [Option.some.injEq, Prod.mk.injEq] at H
  obtain ⟨rfl, rfl⟩ := H
  go_enter Tryd.func30, Tryd.ntmps30
  go_wp2_with (first | ((with_reducible refine gate_callee (f := 45) rfl ?_); refine goesL_ (some 8) rfl rfl Tryd.func45 (by kernel_rfl) rfl #[.int .i64 a0, .int .i64 a1] rfl (by (try simp only [List.map_toArray, List.map_cons, List.map_nil]); first | done | rfl | (simp only [List.length_drop, List.length_take]; rfl)) ?_; (with_reducible refine (reedsolomon_vandermonde.calls k a0 a1 t119 t120 _ ?side1 A3.out).mono ?_); (case side1 => first | exact HG.out | exact Glob.drewN HG.out _ | exact Glob.below HG.out (by repeat (first | (with_reducible first | exact HB.out | apply below_alloc | apply pw_below_drewN | apply below_drew1) | exact HB.out))); rintro e w4 ⟨v121, rfl, ho0, hb⟩; refine ⟨_, rfl, ?_⟩; have n0_ := Aside0.mk (Kd.S_lower ho0 (below_size (by repeat (first | (with_reducible first | exact HB.out | apply below_alloc | apply pw_below_drewN | apply below_drew1) | exact HB.out)))); have n1_ := Aside0.mk (below_step (by repeat (first | (with_reducible first | exact HB.out | apply below_alloc | apply pw_below_drewN | apply below_drew1) | exact HB.out)) hb); clear HB; have HO122 := n0_; have HB := n1_; clear n0_ n1_; (try clear hb); (try clear hb2); (try clear hk); (try clear hi); (try clear ho0); (try simp only [errW_none, errW_some])))
  go_ret2
  exact ⟨_, by first | rfl | (simp [errW_none, errW_some] <;> rfl) | (simp [*, errW_none, errW_some] <;> rfl), by (with_reducible repeat (first | apply Kd.S_alloc | apply Kd.S_drewN | apply Kd.S_drew)); exact HO122.out, by repeat (first | (with_reducible first | exact HB.out | apply below_alloc | apply pw_below_drewN | apply below_drew1) | exact HB.out)⟩

/-! ### impl_rows: function 31 -/
def impl_rows.l0 : Nat → List (List Int) → List (List Int) → Int → Int → Option ((List (List Int)))
  | 0, _, _, _, _ => none
  | k + 1, x3, x6, x7, x8 => if x8 < x7 then (if 0 ≤ x8 then (if x8 < (x6.length : Int) then (if ([] : List Int).length + (rd_L2 x6 x8).length < 140737488355328 then (if x3.length < 5864062014805 then (impl_rows.l0 k (x3 ++ [(([] : List Int) ++ (rd_L2 x6 x8))]) x6 x7 (wrap64 (x8 + 1))) else (none)) else (none)) else (none)) else (none)) else (some x3)
def impl_rows.f (k : Nat) (l0 : List (List Int)) : Option ((List (List Int))) := impl_rows.l0 k ([] : List (List Int)) l0 (l0.length : Int) 0
theorem impl_rows.mono_l : ∀ k, (∀ y0 y1 y2 y3, LeO (impl_rows.l0 k y0 y1 y2 y3) (impl_rows.l0 (k + 1) y0 y1 y2 y3))
  | 0 => fun _ _ _ _ r h => by simp [impl_rows.l0] at h
  | k + 1 => by
    have ih0 := impl_rows.mono_l k
    · intro y0 y1 y2 y3
      unfold impl_rows.l0
      repeat' first
      | (with_reducible exact ih0 _ _ _ _)
      | (with_reducible exact LeO.refl _)
      | (with_reducible exact LeO.none _)
      | (with_reducible refine LeO.ite ?_ ?_)
      | (with_reducible refine LeO.bind ?_ (fun _ => ?_))
      | exact ih0 _ _ _ _
      | exact LeO.none _
      | refine LeO.ite ?_ ?_
      | refine LeO.bind ?_ (fun _ => ?_)
theorem impl_rows.mono : ∀ a0 k, LeO (impl_rows.f k a0) (impl_rows.f (k + 1) a0) := by
  intro a0 k
  have ih0 := impl_rows.mono_l k
  unfold impl_rows.f
  repeat' first
      | (with_reducible exact ih0 _ _ _ _)
      | (with_reducible exact LeO.refl _)
      | (with_reducible exact LeO.none _)
      | (with_reducible refine LeO.ite ?_ ?_)
      | (with_reducible refine LeO.bind ?_ (fun _ => ?_))
      | exact ih0 _ _ _ _
      | exact LeO.none _
      | refine LeO.ite ?_ ?_
      | refine LeO.bind ?_ (fun _ => ?_)
set_option maxHeartbeats 8000000 in
set_option maxRecDepth 100000 in
theorem impl_rows.calls (k : Nat) (A0 : Option Addr) (c0 : Nat) (l0 : List (List Int)) (r : List (List Int)) (w : World) (hr0 : Kd.C (Kd.slice 5 (Kd.int .u8)) w A0 l0.length l0) (hc0 : l0.length ≤ c0) (h : impl_rows.f k l0 = some r) :
    Calls Tryd.prog 31 #[.slice A0 l0.length c0] w fun e w' => ∃ v0_ : Value, e = .returned (v0_) ∧ Kd.S (Kd.slice 5 (Kd.int .u8)) 24 w' w.heap.size (fun _ => True) v0_ r ∧ Below w.heap.size w w' := by
  have HR0 := Aside0.mk hr0
  have HC0 := Aside0.mk hc0
  clear hr0 hc0
  have HB := Aside0.mk (Below.refl w.heap.size w)
  have H : (impl_rows.l0 k ([] : List (List Int)) l0 (l0.length : Int) 0) = some r := h
  clear h
  have H' := Aside0.mk H
  clear H
  go_enter Tryd.func31, Tryd.ntmps31
  go_wp2
  (try simp only [Act.put, List.setIfInBounds_toArray, List.set_cons_zero, List.set_cons_succ])
  go_loopg [3, 8] k (fun kq v3 v8 w' => ∃ (x3_1 : List (List Int)) (x8_1 : Int), v8 = .int .i64 x8_1 ∧ Aside0 (impl_rows.l0 kq x3_1 l0 (l0.length : Int) x8_1 = some r) ∧ Aside0 (kq ≤ k) ∧ Aside0 (Kd.S (Kd.slice 5 (Kd.int .u8)) 24 w' w.heap.size (fun _ => True) v3 x3_1) ∧ Aside0 (Below w.heap.size w w'))
  case atStart => exact ⟨(([] : List (List Int))), (0), (by first | rfl | (simp; done) | (simp [*]; done)), H', ⟨Nat.le_refl _⟩, ⟨by first | exact Kd.S_nil _ _ _ _ _ | exact Kd.N_nil _ _ _ _ _ | exact Kd.V_nil _ _ _ _ _ | exact Kd.Q_nil _ _ _ _ _ | exact Kd.R_nil _ _ _ _ _⟩, ⟨by repeat (first | (with_reducible first | exact HB.out | apply below_alloc | apply pw_below_drewN | apply below_drew1) | exact HB.out)⟩⟩
  case round =>
    clear H'
    obtain ⟨x3_1, x8_1, rfl, HA, HK1, HO_3, HB⟩ := hrel
    cases gk with
    | zero => exact absurd HA.out (by simp [impl_rows.l0])
    | succ k1 =>
      have H := HA.out
      clear HA
      simp only [impl_rows.l0] at H
      by_cases c2 : x8_1 < (l0.length : Int)
      · rw [if_pos c2] at H
        have c2b0 : decide (x8_1 < (l0.length : Int)) = true := decide_eq_true c2
        clear c2
        by_cases c3 : 0 ≤ x8_1
        · rw [if_pos c3] at H
          have c3b0 : decide (0 ≤ x8_1) = true := decide_eq_true c3
          clear c3
          by_cases c4 : x8_1 < (l0.length : Int)
          · rw [if_pos c4] at H
            have c4b0 : decide (x8_1 < (l0.length : Int)) = true := decide_eq_true c4
            clear c4
            by_cases c5 : ([] : List Int).length + (rd_L2 l0 x8_1).length < 140737488355328
            · rw [if_pos c5] at H
              have LMc5 := Aside0.mk c5
              clear c5
              obtain ⟨y124, hy124⟩ : ∃ y_ : List Int, y_ = (([] : List Int) ++ (rd_L2 l0 x8_1)) := ⟨_, rfl⟩
              replace H : (if x3_1.length < 5864062014805 then (impl_rows.l0 k1 (x3_1 ++ [y124]) l0 (l0.length : Int) (wrap64 (x8_1 + 1))) else (none)) = some r := by first | (rw [hy124]; with_reducible exact H) | (have H2_ := (Option.bind_some _ _).symm.trans H; rw [hy124]; with_reducible exact H2_) | (have H2_ := (Option.bind_some _ _).symm.trans H; with_reducible exact H2_) | with_reducible exact H | (rw [hy124]; exact H) | exact H
              have Ny124 := Aside0.mk hy124
              clear hy124
              by_cases c6 : x3_1.length < 5864062014805
              · rw [if_pos c6] at H
                have LMc6 := Aside0.mk c6
                clear c6
                obtain ⟨y127, hy127⟩ : ∃ y_ : List (List Int), y_ = (x3_1 ++ [y124]) := ⟨_, rfl⟩
                replace H : (impl_rows.l0 k1 y127 l0 (l0.length : Int) (wrap64 (x8_1 + 1))) = some r := by first | (rw [hy127]; with_reducible exact H) | (have H2_ := (Option.bind_some _ _).symm.trans H; rw [hy127]; with_reducible exact H2_) | (have H2_ := (Option.bind_some _ _).symm.trans H; with_reducible exact H2_) | with_reducible exact H | (rw [hy127]; exact H) | exact H
                have Ny127 := Aside0.mk hy127
                clear hy127
                have H' := Aside0.mk H
                clear H
                have p123 : 0 ≤ (x8_1 : Int) := of_decide_eq_true (by first | (with_reducible assumption) | assumption)
                have q123 : x8_1 < (l0.length : Int) := of_decide_eq_true (by first | (with_reducible assumption) | assumption)
                obtain ⟨ad123, A123_0, c123_0, e123, hx123_0, hl123_0, hi123_0⟩ := at_L2 HR0.out x8_1 p123 q123
                cases e123
                (try replace hx123_0 := (HB.out.cell (World.block_lt_of_cell? w _ hx123_0)).trans hx123_0)
                have HR123_0 := Aside0.mk hi123_0
                have HC123_0 := Aside0.mk hl123_0
                clear hi123_0 hl123_0
                replace p123 := eq_true p123
                replace q123 := eq_true q123
                go_wp2_with (first | ((with_reducible refine gate_builtin (b := .append) (xs := #[.const (.slice none 0 0), .tmp 13]) rfl ?_); at_builtin; refine Kd.R_append_rows (Kd.int .u8) (w0 := w) w.heap.size rfl (.const (.slice none 0 0)) (.tmp 13) 24 5 (.int .u8 0) 1 rfl Tryd.underlying24 info5 rfl (by decide) (by omega) (.slice none 0 0) ([] : List Int) (rd_L2 l0 x8_1) _ _ _ (fun _ => True) (fun _ => False) rfl rfl ?aO ?aR (fun _ _ h => h) (fun _ h => h.elim) ?aF ?aB ?aS ?aL ?_; (case aR => repeat (first | exact (Kd.C_below HR123_0.out HB.out) | (with_reducible refine Kd.C_alloc ?_ _) | (with_reducible refine Kd.C_drewN ?_ _) | (with_reducible refine Kd.C_drew ?_))); (case aB => exact (by repeat (first | (with_reducible first | exact HB.out | apply below_alloc | apply pw_below_drewN | apply below_drew1) | exact HB.out))); (case aF => exact (fun _ _ => trivial)); (case aO => exact ((Kd.R_nil _ _ _ _ (fun _ => True)))); (case aS => exact (below_size (by repeat (first | (with_reducible first | exact HB.out | apply below_alloc | apply pw_below_drewN | apply below_drew1) | exact HB.out)))); (case aL => have := LMc5.out; omega); intro v125 w7 ho hb hg hat; rw [← Ny124.out] at ho; have n0_ := Aside0.mk (Kd.S_after (Kd.S_apart_nil (by (with_reducible repeat (first | apply Kd.S_alloc | apply Kd.S_drewN | apply Kd.S_drew)); exact HO_3.out)) hg hat); have n1_ := Aside0.mk (hb); have n2_ := Aside0.mk (ho); clear HO_3; clear HB; have HO_3 := n0_; have HB := n1_; have HO126 := n2_; clear n0_ n1_ n2_; clear ho hb hg hat; obtain ⟨Ao9, co9, eo9⟩ := Kd.R_slice HO126.out; subst eo9) | ((with_reducible refine gate_builtin (b := .append) (xs := #[.tmp 12, .tmp 15]) rfl ?_); at_builtin; refine Kd.S_append (Kd.slice 5 (Kd.int .u8)) (w0 := w) w.heap.size rfl (.tmp 12) (.tmp 15) 30 24 (.slice none 0 0) 24 rfl Tryd.underlying30 info24 rfl (by decide) (by omega) u3 x3_1 y124 [.slice Ao9 y124.length co9] (fun _ => True) (fun k_ => some k_ = (.slice Ao9 y124.length co9 : Value).ownBlock) rfl rfl ?aP (fun k_ hk_ => ((Kd.R_mono (ok' := fun k_ => ((fun _ => True)) k_ ∧ some k_ ≠ (u3 : Value).ownBlock) (Kd.R_apart' (HO126.out) (Kd.S_typed HO_3.out) (by decide)) (fun k_ hk => ⟨trivial, hk.2⟩))).1 k_ hk_.symm) ?aF ?aO ?aB ?aS ?aL ?_; (case aP => exact Kd.M_row (Kd.R_mono (Kd.R_tight rfl (Kd.R_mono (ok' := fun k_ => ((fun _ => True)) k_ ∧ some k_ ≠ (u3 : Value).ownBlock) (Kd.R_apart' (HO126.out) (Kd.S_typed HO_3.out) (by decide)) (fun k_ hk => ⟨trivial, hk.2⟩))) (fun _ h_ => h_))); (case aB => exact (by repeat (first | (with_reducible first | exact HB.out | apply below_alloc | apply pw_below_drewN | apply below_drew1) | exact HB.out))); (case aF => exact (fun _ _ => trivial)); (case aO => exact (by (with_reducible repeat (first | apply Kd.S_alloc | apply Kd.S_drewN | apply Kd.S_drew)); exact Kd.S_mono HO_3.out (fun k_ hk => ⟨trivial, fun e_ => hk.2 e_⟩))); (case aS => exact (below_size (by repeat (first | (with_reducible first | exact HB.out | apply below_alloc | apply pw_below_drewN | apply below_drew1) | exact HB.out)))); (case aL => have := LMc6.out; omega); intro v128 w8 ho hb hg hat; rw [← Ny127.out] at ho; have n0_ := Aside0.mk (hb); have n1_ := Aside0.mk (ho); clear HB; clear HO_3; clear HO126; have HB := n0_; have HO129 := n1_; clear n0_ n1_; clear ho hb hg hat))
                go_roundg k1
                case measure => have := HK1.out; omega
                case rel => exact ⟨(y127), (wrap64 (x8_1 + 1)), (by first | rfl | (simp; done) | (simp [*]; done)), H', ⟨by have := HK1.out; omega⟩, ⟨by (with_reducible repeat (first | apply Kd.S_alloc | apply Kd.S_drewN | apply Kd.S_drew)); exact HO129.out⟩, ⟨by repeat (first | (with_reducible first | exact HB.out | apply below_alloc | apply pw_below_drewN | apply below_drew1) | exact HB.out)⟩⟩
              · rw [if_neg c6] at H
                exact absurd H (by simp)
            · rw [if_neg c5] at H
              exact absurd H (by simp)
          · rw [if_neg c4] at H
            exact absurd H (by simp)
        · rw [if_neg c3] at H
          exact absurd H (by simp)
      · rw [if_neg c2] at H
        have c2b0 : decide (x8_1 < (l0.length : Int)) = false := decide_eq_false c2
        clear c2
        obtain rfl := Option.some.inj H
        go_wp2
        go_ret
        exact ⟨_, by first | rfl | (simp [errW_none, errW_some] <;> rfl) | (simp [*, errW_none, errW_some] <;> rfl), by (with_reducible repeat (first | apply Kd.S_alloc | apply Kd.S_drewN | apply Kd.S_drew)); exact HO_3.out, by repeat (first | (with_reducible first | exact HB.out | apply below_alloc | apply pw_below_drewN | apply below_drew1) | exact HB.out)⟩

end Go.Proofs.YtpjfokolbgcbhaaDoor.Qv
