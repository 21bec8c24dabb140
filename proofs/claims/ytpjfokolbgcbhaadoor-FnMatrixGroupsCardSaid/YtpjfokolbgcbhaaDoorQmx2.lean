-- Written by wip/tools/myprint.py for this seat (the kit's print with changes); Lean checks it.
import Derived.Test.YtpjfokolbgcbhaaDoorQmx0
import Derived.Test.YtpjfokolbgcbhaaDoorQmx1
namespace Go.Proofs.YtpjfokolbgcbhaaDoor.Qm
open Go.RowKit Go.Proofs.YtpjfokolbgcbhaaDoorW.PrintWords Go.Proofs.YtpjfokolbgcbhaaDoorW.PrintLast Go.Proofs.YtpjfokolbgcbhaaDoorW.PrintMore
attribute [local go_sem] max2_int min2_int max_two min_two max_three min_three max_four min_four   -- for this text's walks alone
set_option linter.unusedVariables false
set_option linter.unusedSimpArgs false

/-! ### impl_isMatrix: function 34 -/
def impl_isMatrix.f (k : Nat) (l0 : List (List Int)) : Option (Bool) := (reedsolomon_DoorCheck.f k l0).bind fun t118 => (if t118.isNone = true then (some true) else (some false))
theorem impl_isMatrix.mono : ∀ a0 k, LeO (impl_isMatrix.f k a0) (impl_isMatrix.f (k + 1) a0) := by
  intro a0 k
  unfold impl_isMatrix.f
  repeat' first
      | (with_reducible exact reedsolomon_DoorCheck.mono _ _)
      | (with_reducible exact LeO.refl _)
      | (with_reducible exact LeO.none _)
      | (with_reducible refine LeO.ite ?_ ?_)
      | (with_reducible refine LeO.bind ?_ (fun _ => ?_))
      | exact reedsolomon_DoorCheck.mono _ _
      | exact LeO.none _
      | refine LeO.ite ?_ ?_
      | refine LeO.bind ?_ (fun _ => ?_)
set_option maxHeartbeats 8000000 in
set_option maxRecDepth 100000 in
theorem impl_isMatrix.calls (k : Nat) (A0 : Option Addr) (c0 : Nat) (l0 : List (List Int)) (r : Bool) (w : World) (hr0 : Kd.C (Kd.slice 5 (Kd.int .u8)) w A0 l0.length l0) (hc0 : l0.length ≤ c0) (h : impl_isMatrix.f k l0 = some r) :
    Calls Tryd.prog 34 #[.slice A0 l0.length c0] w fun e w' => e = .returned (.bool r) ∧ Drawn0 w w' := by
  have hu46 := Tryd.underlying46
  have HR0 := Aside0.mk hr0
  have HC0 := Aside0.mk hc0
  clear hr0 hc0
  have H : ((reedsolomon_DoorCheck.f k l0).bind fun t118 => (if t118.isNone = true then (some true) else (some false))) = some r := h
  clear h
  replace H := Option.bind_eq_some_iff.mp H
  obtain ⟨t118, A20, H⟩ := H
  replace H : (if t118.isNone = true then (some true) else (some false)) = some r := H
  have A2 := Aside0.mk A20
  clear A20
  rcases t118 with _ | q119
  · have H1 : (some true) = some r := by rw [if_pos (show (none : Option Int).isNone = true by rfl)] at H; exact H
    clear H
    have H := H1
    clear H1
    try simp only [errW_none, errW_some]
    obtain rfl := Option.some.inj H
    go_enter Tryd.func34, Tryd.ntmps34
    go_wp2_with (first | ((with_reducible refine gate_callee (f := 46) rfl ?_); refine goesL_ (some 4) rfl rfl Tryd.func46 (by kernel_rfl) rfl #[.slice A0 l0.length c0] rfl (by (try simp only [List.map_toArray, List.map_cons, List.map_nil]); first | done | rfl | (simp only [List.length_drop, List.length_take]; rfl)) ?_; (with_reducible refine (reedsolomon_DoorCheck.calls k _ _ l0 none _ ?side1 ?side2 A2.out).mono ?_); (case side1 => repeat (first | exact HR0.out | (with_reducible refine Kd.C_alloc ?_ _) | (with_reducible refine Kd.C_drewN ?_ _) | (with_reducible refine Kd.C_drew ?_))); (case side2 => exact HC0.out); rintro e w' ⟨rfl, ⟨nd, rfl⟩⟩; refine ⟨_, rfl, ?_⟩; (try simp only [errW_none, errW_some])))
    go_ret
    exact ⟨by first | rfl | (simp; done) | (simp [*]; done), by repeat (first | exact Drawn0.refl _ | apply Drawn0.step)⟩
  · have H1 : (some false) = some r := by rw [if_neg (show ¬ (some q119).isNone = true by simp)] at H; exact H
    clear H
    have H := H1
    clear H1
    try simp only [errW_none, errW_some]
    obtain rfl := Option.some.inj H
    go_enter Tryd.func34, Tryd.ntmps34
    go_wp2_with (first | ((with_reducible refine gate_callee (f := 46) rfl ?_); refine goesL_ (some 4) rfl rfl Tryd.func46 (by kernel_rfl) rfl #[.slice A0 l0.length c0] rfl (by (try simp only [List.map_toArray, List.map_cons, List.map_nil]); first | done | rfl | (simp only [List.length_drop, List.length_take]; rfl)) ?_; (with_reducible refine (reedsolomon_DoorCheck.calls k _ _ l0 (some q119) _ ?side1 ?side2 A2.out).mono ?_); (case side1 => repeat (first | exact HR0.out | (with_reducible refine Kd.C_alloc ?_ _) | (with_reducible refine Kd.C_drewN ?_ _) | (with_reducible refine Kd.C_drew ?_))); (case side2 => exact HC0.out); rintro e w' ⟨rfl, ⟨nd, rfl⟩⟩; refine ⟨_, rfl, ?_⟩; (try simp only [errW_none, errW_some])))
    go_ret
    exact ⟨by first | rfl | (simp; done) | (simp [*]; done), by repeat (first | exact Drawn0.refl _ | apply Drawn0.step)⟩

/-! ### reedsolomon_galMultiply: function 42, by hand -/
set_option maxRecDepth 100000 in
set_option maxHeartbeats 2000000 in
theorem mul_zero1 (b : Nat) (w : World) : Calls Tryd.prog 42 #[.int .u8 0, .int .u8 (b : Nat)] w fun e w' => e = .returned (.int .u8 0) ∧ Drawn0 w w' := by
  go_enter Tryd.func42, Tryd.ntmps42
  go_wp2
  go_ret
  exact ⟨rfl, Drawn0.refl _⟩
set_option maxRecDepth 100000 in
set_option maxHeartbeats 2000000 in
theorem mul_zero2 (a : Nat) (ha : ((a : Int) == 0) = false) (w : World) : Calls Tryd.prog 42 #[.int .u8 (a : Nat), .int .u8 0] w fun e w' => e = .returned (.int .u8 0) ∧ Drawn0 w w' := by
  go_enter Tryd.func42, Tryd.ntmps42
  go_wp2
  go_ret
  exact ⟨rfl, Drawn0.refl _⟩
set_option maxRecDepth 100000 in
set_option maxHeartbeats 2000000 in
theorem mul_lo (a b la lb : Nat) (e0 : Nat) (ha : ((a : Int) == 0) = false) (hb : ((b : Int) == 0) = false) (ha2 : a < 256) (hb2 : b < 256) (hla : la < 255) (hlb : lb < 255) (hlt : la + lb < 255)
    (w : World) (h1 : w.cell? ⟨0, a, none⟩ = some (.int .u8 (la : Nat))) (h2 : w.cell? ⟨0, b, none⟩ = some (.int .u8 (lb : Nat))) (h3 : w.cell? ⟨1, la + lb, none⟩ = some (.int .u8 (e0 : Nat))) :
    Calls Tryd.prog 42 #[.int .u8 (a : Nat), .int .u8 (b : Nat)] w fun e w' => e = .returned (.int .u8 (e0 : Nat)) ∧ Drawn0 w w' := by
  go_enter Tryd.func42, Tryd.ntmps42
  go_wp2
  go_quiet (fail)
  go_wp2
  go_ret
  exact ⟨rfl, ⟨_, rfl⟩⟩
set_option maxRecDepth 100000 in
set_option maxHeartbeats 2000000 in
theorem mul_hi (a b la lb : Nat) (e0 : Nat) (ha : ((a : Int) == 0) = false) (hb : ((b : Int) == 0) = false) (ha2 : a < 256) (hb2 : b < 256) (hla : la < 255) (hlb : lb < 255) (hlt : 255 ≤ la + lb)
    (w : World) (h1 : w.cell? ⟨0, a, none⟩ = some (.int .u8 (la : Nat))) (h2 : w.cell? ⟨0, b, none⟩ = some (.int .u8 (lb : Nat))) (h3 : w.cell? ⟨1, la + lb - 255, none⟩ = some (.int .u8 (e0 : Nat))) :
    Calls Tryd.prog 42 #[.int .u8 (a : Nat), .int .u8 (b : Nat)] w fun e w' => e = .returned (.int .u8 (e0 : Nat)) ∧ Drawn0 w w' := by
  go_enter Tryd.func42, Tryd.ntmps42
  go_wp2
  go_quiet (fail)
  go_wp2
  go_ret
  exact ⟨rfl, ⟨_, rfl⟩⟩
def reedsolomon_galMultiply.f (a0 : Int) (a1 : Int) : Option (Int) := if 0 ≤ a0 ∧ a0 ≤ 255 ∧ 0 ≤ a1 ∧ a1 ≤ 255 then some ((gmul a0.toNat a1.toNat : Nat) : Int) else none
theorem reedsolomon_galMultiply.calls (a0 : Int) (a1 : Int) (r : Int) (w : World) (HG_ : Glob w) (h : reedsolomon_galMultiply.f a0 a1 = some r) :
    Calls Tryd.prog 42 #[.int .u8 a0, .int .u8 a1] w fun e w' => e = .returned (.int .u8 r) ∧ Drawn0 w w' := by
  unfold reedsolomon_galMultiply.f at h
  by_cases hc : 0 ≤ a0 ∧ a0 ≤ 255 ∧ 0 ≤ a1 ∧ a1 ≤ 255
  · rw [if_pos hc] at h
    obtain ⟨c0, c1, c2, c3⟩ := hc
    obtain ⟨a, rfl⟩ := Int.eq_ofNat_of_zero_le c0
    obtain ⟨b, rfl⟩ := Int.eq_ofNat_of_zero_le c2
    rw [Int.toNat_natCast, Int.toNat_natCast] at h
    obtain rfl := Option.some.inj h
    unfold gmul
    by_cases ha : a = 0
    · subst ha; rw [if_pos rfl]; exact mul_zero1 b w
    by_cases hb : b = 0
    · subst hb; rw [if_neg ha, if_pos rfl]; exact mul_zero2 a (by simpa using ha) w
    rw [if_neg ha, if_neg hb]
    have la := log_lt a
    have lb := log_lt b
    by_cases hs : 255 ≤ logL.getD a 0 + logL.getD b 0
    · rw [if_pos hs]
      exact mul_hi a b _ _ _ (by simpa using ha) (by simpa using hb) (by omega) (by omega) la lb hs w (HG_.1 a (by omega)) (HG_.1 b (by omega)) (HG_.2 _ (by omega))
    · rw [if_neg hs]
      exact mul_lo a b _ _ _ (by simpa using ha) (by simpa using hb) (by omega) (by omega) la lb (by omega) w (HG_.1 a (by omega)) (HG_.1 b (by omega)) (HG_.2 _ (by omega))
  · rw [if_neg hc] at h; exact absurd h (by simp)

/-! ### reedsolomon_newMatrix: function 53 -/
def reedsolomon_newMatrix.l0 : Nat → Int → List (List Int) → Int → Int → Option ((List (List Int)) × Option Int)
  | 0, _, _, _, _ => none
  | k + 1, x1, x6, x17, x18 => if x18 < x17 then (if 0 ≤ x1 then (if (x1 : Int).toNat ≤ 281474976710656 then (if 0 ≤ x18 then (if x18 < (x6.length : Int) then (reedsolomon_newMatrix.l0 k x1 (x6.set (x18 : Int).toNat (List.replicate (x1 : Int).toNat 0)) x17 (wrap64 (x18 + 1))) else (none)) else (none)) else (none)) else (none)) else (some (x6, none))
def reedsolomon_newMatrix.f (k : Nat) (a0 : Int) (a1 : Int) : Option ((List (List Int)) × Option Int) := if a0 ≤ 0 then (none) else (if a1 ≤ 0 then (none) else (if 0 ≤ a0 then (if (a0 : Int).toNat ≤ 11728124029610 then ((some (List.replicate (a0 : Int).toNat [] : List (List Int))).bind fun y120 => (reedsolomon_newMatrix.l0 k a1 y120 (y120.length : Int) 0)) else (none)) else (none)))
theorem reedsolomon_newMatrix.mono_l : ∀ k, (∀ y0 y1 y2 y3, LeO (reedsolomon_newMatrix.l0 k y0 y1 y2 y3) (reedsolomon_newMatrix.l0 (k + 1) y0 y1 y2 y3))
  | 0 => fun _ _ _ _ r h => by simp [reedsolomon_newMatrix.l0] at h
  | k + 1 => by
    have ih0 := reedsolomon_newMatrix.mono_l k
    · intro y0 y1 y2 y3
      unfold reedsolomon_newMatrix.l0
      repeat' first
      | (with_reducible exact ih0 _ _ _ _)
      | (with_reducible exact LeO.refl _)
      | (with_reducible exact LeO.none _)
      | (with_reducible refine LeO.ite ?_ ?_)
      | (with_reducible refine LeO.bind ?_ (fun _ => ?_))
      | exact ih0 _ _ _ _
      | exact LeO.none _
      | refine LeO.ite ?_ ?_
      | refine LeO.bind ?_ (fun _ => ?_)
theorem reedsolomon_newMatrix.mono : ∀ a0 a1 k, LeO (reedsolomon_newMatrix.f k a0 a1) (reedsolomon_newMatrix.f (k + 1) a0 a1) := by
  intro a0 a1 k
  have ih0 := reedsolomon_newMatrix.mono_l k
  unfold reedsolomon_newMatrix.f
  repeat' first
      | (with_reducible exact ih0 _ _ _ _)
      | (with_reducible exact LeO.refl _)
      | (with_reducible exact LeO.none _)
      | (with_reducible refine LeO.ite ?_ ?_)
      | (with_reducible refine LeO.bind ?_ (fun _ => ?_))
      | exact ih0 _ _ _ _
      | exact LeO.none _
      | refine LeO.ite ?_ ?_
      | refine LeO.bind ?_ (fun _ => ?_)
set_option maxHeartbeats 8000000 in
set_option maxRecDepth 100000 in
theorem reedsolomon_newMatrix.calls (k : Nat) (a0 : Int) (a1 : Int) (r1 : List (List Int)) (r2 : Option Int) (w : World) (h : reedsolomon_newMatrix.f k a0 a1 = some (r1, r2)) :
    Calls Tryd.prog 53 #[.int .i64 a0, .int .i64 a1] w fun e w' => ∃ v0_ : Value, e = .returned (.tuple #[v0_, errW r2]) ∧ Kd.S (Kd.slice 5 (Kd.int .u8)) 24 w' w.heap.size (fun _ => True) v0_ r1 ∧ Below w.heap.size w w' := by
  have HB := Aside0.mk (Below.refl w.heap.size w)
  have H : (if a0 ≤ 0 then (none) else (if a1 ≤ 0 then (none) else (if 0 ≤ a0 then (if (a0 : Int).toNat ≤ 11728124029610 then ((some (List.replicate (a0 : Int).toNat [] : List (List Int))).bind fun y120 => (reedsolomon_newMatrix.l0 k a1 y120 (y120.length : Int) 0)) else (none)) else (none)))) = some (r1, r2) := h
  clear h
  by_cases c3 : a0 ≤ 0
  · rw [if_pos c3] at H
    exact absurd H (by simp)
  · rw [if_neg c3] at H
    have c3b0 : decide (a0 ≤ 0) = false := decide_eq_false c3
    clear c3
    by_cases c4 : a1 ≤ 0
    · rw [if_pos c4] at H
      exact absurd H (by simp)
    · rw [if_neg c4] at H
      have c4b0 : decide (a1 ≤ 0) = false := decide_eq_false c4
      clear c4
      by_cases c5 : 0 ≤ a0
      · rw [if_pos c5] at H
        have c5b0 := eq_true c5
        have c5b1 : decide (0 ≤ a0) = true := decide_eq_true c5
        clear c5
        by_cases c6 : (a0 : Int).toNat ≤ 11728124029610
        · rw [if_pos c6] at H
          have c6b0 := eq_true c6
          have c6b1 : decide ((a0 : Int).toNat ≤ 11728124029610) = true := decide_eq_true c6
          clear c6
          obtain ⟨y120, hy120⟩ : ∃ y_ : List (List Int), y_ = (List.replicate (a0 : Int).toNat []) := ⟨_, rfl⟩
          replace H : (reedsolomon_newMatrix.l0 k a1 y120 (y120.length : Int) 0) = some (r1, r2) := by first | (rw [hy120]; with_reducible exact H) | (have H2_ := (Option.bind_some _ _).symm.trans H; rw [hy120]; with_reducible exact H2_) | (have H2_ := (Option.bind_some _ _).symm.trans H; with_reducible exact H2_) | with_reducible exact H | (rw [hy120]; exact H) | exact H
          have Ny120 := Aside0.mk hy120
          clear hy120
          have H' := Aside0.mk H
          clear H
          go_enter Tryd.func53, Tryd.ntmps53
          go_wp2_with (first | ((with_reducible refine gate_dst (N := 15) rfl ?_); refine Kd.S_make (Kd.slice 5 (Kd.int .u8)) _ 24 rfl (N := 15) rfl 30 _ _ rfl a0 rfl rfl Tryd.underlying30 (.slice none 0 0) 24 info24 rfl (by decide) (by omega) [] (ok := fun _ => True) (okp := fun _ => True) ⟨_, rfl, Kd.R_nil _ _ _ _ _⟩ (fun _ hk => hk) trivial (of_decide_eq_true (by first | (with_reducible assumption) | assumption)) (Nat.le_trans (Nat.mul_le_mul_right _ (of_decide_eq_true (by first | (with_reducible assumption) | assumption) : a0.toNat ≤ 11728124029610)) (by omega)) (Below.refl _ _) (Nat.le_refl _) ?_; intro v121 w7 ho8 hb hg_ hnew_; clear hg_ hnew_; (first | rw [← Ny120.out] at ho8 | (simp only [Int.reduceToNat] at ho8; rw [← Ny120.out] at ho8)); have n0_ := Aside0.mk (Kd.S_lower ho8 (below_size (by repeat (first | (with_reducible first | exact HB.out | apply below_alloc | apply pw_below_drewN | apply below_drew1) | exact HB.out)))); have n1_ := Aside0.mk (below_step (by repeat (first | (with_reducible first | exact HB.out | apply below_alloc | apply pw_below_drewN | apply below_drew1) | exact HB.out)) hb); clear HB; have HO122 := n0_; have HB := n1_; clear n0_ n1_; clear hb ho8; obtain ⟨Ao9, co9, eo9⟩ := Kd.S_slice HO122.out; subst eo9))
          (try simp only [Act.put, List.setIfInBounds_toArray, List.set_cons_zero, List.set_cons_succ])
          go_loopg [18] k (fun kq v18 w' => ∃ (x6_1 : List (List Int)) (x18_1 : Int), v18 = .int .i64 x18_1 ∧ Aside0 (reedsolomon_newMatrix.l0 kq a1 x6_1 (y120.length : Int) x18_1 = some (r1, r2)) ∧ Aside0 (kq ≤ k) ∧ Aside0 (Kd.S (Kd.slice 5 (Kd.int .u8)) 24 w' w.heap.size (fun _ => True) (.slice Ao9 y120.length co9) x6_1) ∧ Aside0 (Below w.heap.size w w'))
          case atStart => exact ⟨(y120), (0), (by first | rfl | (simp; done) | (simp [*]; done)), H', ⟨Nat.le_refl _⟩, ⟨by (with_reducible repeat (first | apply Kd.S_alloc | apply Kd.S_drewN | apply Kd.S_drew)); exact HO122.out⟩, ⟨by repeat (first | (with_reducible first | exact HB.out | apply below_alloc | apply pw_below_drewN | apply below_drew1) | exact HB.out)⟩⟩
          case round =>
            clear H'
            try clear p2
            try clear c3
            try clear c3b0
            try clear c4
            try clear c4b0
            try clear c5
            try clear c5b0
            try clear c5b1
            try clear c6
            try clear c6b0
            try clear c6b1
            obtain ⟨x6_1, x18_1, rfl, HA, HK1, HO_6, HB⟩ := hrel
            have hl6_1 := (Kd.S_reads' HO_6.out).1
            rw [hl6_1] at HO_6
            (try simp only [hl6_1])
            cases gk with
            | zero => exact absurd HA.out (by simp [reedsolomon_newMatrix.l0])
            | succ k1 =>
              have H := HA.out
              clear HA
              simp only [reedsolomon_newMatrix.l0] at H
              by_cases c10 : x18_1 < (y120.length : Int)
              · rw [if_pos c10] at H
                have c10b0 : decide (x18_1 < (y120.length : Int)) = true := decide_eq_true c10
                clear c10
                by_cases c11 : 0 ≤ a1
                · rw [if_pos c11] at H
                  have c11b0 := eq_true c11
                  have c11b1 : decide (0 ≤ a1) = true := decide_eq_true c11
                  clear c11
                  by_cases c12 : (a1 : Int).toNat ≤ 281474976710656
                  · rw [if_pos c12] at H
                    have c12b0 := eq_true c12
                    have c12b1 : decide ((a1 : Int).toNat ≤ 281474976710656) = true := decide_eq_true c12
                    clear c12
                    obtain ⟨y123, hy123⟩ : ∃ y_ : List Int, y_ = (List.replicate (a1 : Int).toNat 0) := ⟨_, rfl⟩
                    replace H : (if 0 ≤ x18_1 then (if x18_1 < (x6_1.length : Int) then (reedsolomon_newMatrix.l0 k1 a1 (x6_1.set (x18_1 : Int).toNat y123) (y120.length : Int) (wrap64 (x18_1 + 1))) else (none)) else (none)) = some (r1, r2) := by first | (rw [hy123]; with_reducible exact H) | (have H2_ := (Option.bind_some _ _).symm.trans H; rw [hy123]; with_reducible exact H2_) | (have H2_ := (Option.bind_some _ _).symm.trans H; with_reducible exact H2_) | with_reducible exact H | (rw [hy123]; exact H) | exact H
                    have Ny123 := Aside0.mk hy123
                    clear hy123
                    by_cases c13 : 0 ≤ x18_1
                    · rw [if_pos c13] at H
                      have c13b0 : decide (0 ≤ x18_1) = true := decide_eq_true c13
                      clear c13
                      by_cases c14 : x18_1 < (x6_1.length : Int)
                      · rw [if_pos c14] at H
                        have c14b0 : decide (x18_1 < (x6_1.length : Int)) = true := decide_eq_true c14
                        clear c14
                        obtain ⟨y126, hy126⟩ : ∃ y_ : List (List Int), y_ = (x6_1.set (x18_1 : Int).toNat y123) := ⟨_, rfl⟩
                        replace H : (reedsolomon_newMatrix.l0 k1 a1 y126 (y120.length : Int) (wrap64 (x18_1 + 1))) = some (r1, r2) := by first | (rw [hy126]; with_reducible exact H) | (have H2_ := (Option.bind_some _ _).symm.trans H; rw [hy126]; with_reducible exact H2_) | (have H2_ := (Option.bind_some _ _).symm.trans H; with_reducible exact H2_) | with_reducible exact H | (rw [hy126]; exact H) | exact H
                        have Ny126 := Aside0.mk hy126
                        clear hy126
                        have H' := Aside0.mk H
                        clear H
                        go_wp2_with (first | ((with_reducible refine gate_dst (N := 24) rfl ?_); refine Kd.R_make (Kd.int .u8) _ 5 rfl (N := 24) rfl 24 _ _ rfl a1 rfl rfl Tryd.underlying24 (.int .u8 0) 1 info5 rfl (by decide) (by omega) 0 (ok := fun _ => True) (okp := fun _ => True) rfl (fun _ hk => hk) trivial (of_decide_eq_true (by first | (with_reducible assumption) | assumption)) (Nat.le_trans (Nat.mul_le_mul_right _ (of_decide_eq_true (by first | (with_reducible assumption) | assumption) : a1.toNat ≤ 281474976710656)) (by omega)) (Below.refl _ _) (Nat.le_refl _) ?_; intro v124 w16 ho17 hb hg_ hnew_; clear hg_ hnew_; (first | rw [← Ny123.out] at ho17 | (simp only [Int.reduceToNat] at ho17; rw [← Ny123.out] at ho17)); have n0_ := Aside0.mk (Kd.S_elder' (by (with_reducible repeat (first | apply Kd.S_alloc | apply Kd.S_drewN | apply Kd.S_drew)); exact HO_6.out) (Kd.R_base ho17) hb); have n1_ := Aside0.mk (Kd.R_lower ho17 (below_size (by repeat (first | (with_reducible first | exact HB.out | apply below_alloc | apply pw_below_drewN | apply below_drew1) | exact HB.out)))); have n2_ := Aside0.mk (below_step (by repeat (first | (with_reducible first | exact HB.out | apply below_alloc | apply pw_below_drewN | apply below_drew1) | exact HB.out)) hb); clear HO_6; clear HB; have HO_6 := n0_; have HO125 := n1_; have HB := n2_; clear n0_ n1_ n2_; clear hb ho17; have p15 : 0 ≤ (x18_1 : Int) := of_decide_eq_true (by first | (with_reducible assumption) | assumption); have q15 : (x18_1 : Int) < ((x6_1.length : Int) : Int) := of_decide_eq_true (by first | (with_reducible assumption) | assumption); obtain ⟨go15, co15, eo15, gb15, gl15, cl15, HG15⟩ := Kd.S_form HO_6.out (by omega); (first | cases eo15 | (injection eo15 with ea_ en_ ec_; (first | subst ea_ | (injection ea_ with ea_; subst ea_)); subst ec_; clear en_)); have GB15 := Aside0.mk gb15; have GG15 := Aside0.mk HG15; clear gb15 gl15 HG15; obtain ⟨_, ce15, hcl15, hM15, hcc15, hfr15, _, _⟩ := Kd.S_elem HO_6.out [] (x18_1 : Int) p15 q15; obtain ⟨ve15_0, rfl, ge15_0⟩ := hM15; have hx15_0 := hcc15 0 _ rfl; have hf15_0 := hfr15 0; (try simp only [show ((Kd.slice 5 (Kd.int .u8))).sz = 1 from rfl, Nat.mul_one, Nat.add_zero] at hx15_0); (try simp only [show ((Kd.slice 5 (Kd.int .u8))).sz = 1 from rfl, Nat.mul_one, Nat.add_zero] at hf15_0); (try clear hcl15); (try clear hcc15); (try clear hfr15); (try clear hM15); replace p15 := eq_true p15; replace q15 := eq_true q15; have n_ := Aside0.mk (Kd.S_mono (ok' := (fun k_ => some k_ ≠ (v124 : Value).ownBlock)) HO_6.out (fun k_ hk => hk.2)); clear HO_6; have HO_6 := n_; clear n_; have HX18 := Aside0.mk (show Kd.S (Kd.slice 5 (Kd.int .u8)) 24 w16 w.heap.size (fun k_ => ((fun _ => True)) k_ ∧ ¬ ((fun k_ => some k_ = (v124 : Value).ownBlock)) k_) (.slice (some ⟨go15, 0, none⟩) x6_1.length co9) x6_1 from (by (with_reducible repeat (first | apply Kd.S_alloc | apply Kd.S_drewN | apply Kd.S_drew)); exact Kd.S_mono HO_6.out (fun k_ hk => ⟨trivial, fun e_ => hk e_⟩))); obtain ⟨oki18, ce18, hcl18, hM18, hcc18, hfr18, hoki18, hH18⟩ := Kd.S_elem HX18.out [] (x18_1 : Int) (of_decide_eq_true (by first | (with_reducible assumption) | assumption)) (by have h_ : (x18_1 : Int) < ((x6_1.length : Int) : Int) := of_decide_eq_true (by first | (with_reducible assumption) | assumption); first | exact h_ | (have e_ := (Kd.S_reads' HO_6.out).1; omega) | simpa using h_); obtain ⟨ve18_0, rfl, ge18_0⟩ := hM18; have HP18 := Kd.S_seg hH18 (of_decide_eq_true (by first | (with_reducible assumption) | assumption)) (by have h_ : (x18_1 : Int) < ((x6_1.length : Int) : Int) := of_decide_eq_true (by first | (with_reducible assumption) | assumption); first | exact h_ | (have e_ := (Kd.S_reads' HO_6.out).1; omega) | simpa using h_) (seg := [v124]) (j := 0) (show 1 ≤ 1 from by decide) (x' := y123) (Kd.M_row (Kd.R_mono (Kd.R_tight rfl (Kd.R_mono (ok' := fun k_ => ((fun _ => True)) k_ ∧ k_ ≠ go15) (Kd.R_apart' (HO125.out) (Kd.S_typed HO_6.out) (by decide)) (fun k_ hk => ⟨trivial, fun e_ => (hk.2) (by rw [e_]; rfl)⟩))) (fun _ h_ => Or.inr (h_)))) (fun _ hk => hk) (fun k_ hk_ => ((Kd.R_mono (ok' := fun k_ => ((fun _ => True)) k_ ∧ k_ ≠ go15) (Kd.R_apart' (HO125.out) (Kd.S_typed HO_6.out) (by decide)) (fun k_ hk => ⟨trivial, fun e_ => (hk.2) (by rw [e_]; rfl)⟩))).1 k_ hk_.symm); have hx18_0 := hcc18 0 _ rfl; (try simp only [show ((Kd.slice 5 (Kd.int .u8))).sz = 1 from rfl, Nat.mul_one, Nat.add_zero] at hx18_0); have hf18_0 := hfr18 0; (try simp only [show ((Kd.slice 5 (Kd.int .u8))).sz = 1 from rfl, Nat.mul_one, Nat.add_zero] at hf18_0); (try clear hcl18); (try clear hcc18); (try clear hfr18); (try clear hM18); (try clear hoki18); (try clear hH18); (try simp only [show ((Kd.slice 5 (Kd.int .u8))).sz = 1 from rfl, Nat.mul_one, Nat.add_zero] at HP18)) | ((with_reducible refine gate_store (t := 24) (p := 25) rfl ?_); refine store_event (t := 24) (p := 25) (v := ?vo_w19) (w1 := (w16.setCell ⟨go15, (x18_1 : Int).toNat, none⟩ (v124))) ?hg ?ho ?hn ?hr ?_; (case ho => rfl); (case hg => rfl); (case hn => rfl); (case hr => first | (go_simp; done) | (go_simp; rfl) | (obtain ⟨Av_, cv_, ev_⟩ := Kd.R_slice HO125.out; subst ev_; first | (go_simp; done) | (go_simp; rfl))); intro w19 hw; have hg : w16.grownBy w19 (some go15) := (by rw [hw]; exact HP18.2); have hp_ : Kd.S (Kd.slice 5 (Kd.int .u8)) 24 w19 w.heap.size (fun _ => True) (.slice (some ⟨go15, 0, none⟩) x6_1.length co9) y126 := (by rw [hw, Ny126.out]; exact HP18.1); clear HP18; have n0_ := Aside0.mk (hp_); have n1_ := Aside0.mk ((by rw [hw]; exact below_set (HB.out) GB15.out : Below w.heap.size w w19)); clear HO_6; clear HB; clear HO125; have HO_6 := n0_; have HB := n1_; clear n0_ n1_; clear hg hw hp_))
                        (try simp only [← hl6_1])
                        go_roundg k1
                        case measure => have := HK1.out; omega
                        case rel => exact ⟨(y126), (wrap64 (x18_1 + 1)), (by first | rfl | (simp; done) | (simp [*]; done)), H', ⟨by have := HK1.out; omega⟩, ⟨by (try simp only [hl6_1]); (with_reducible repeat (first | apply Kd.S_alloc | apply Kd.S_drewN | apply Kd.S_drew)); exact HO_6.out⟩, ⟨by repeat (first | (with_reducible first | exact HB.out | apply below_alloc | apply pw_below_drewN | apply below_drew1) | exact HB.out)⟩⟩
                      · rw [if_neg c14] at H
                        exact absurd H (by simp)
                    · rw [if_neg c13] at H
                      exact absurd H (by simp)
                  · rw [if_neg c12] at H
                    exact absurd H (by simp)
                · rw [if_neg c11] at H
                  exact absurd H (by simp)
              · rw [if_neg c10] at H
                have c10b0 : decide (x18_1 < (y120.length : Int)) = false := decide_eq_false c10
                (try (have c10r := c10b0; simp only [hl6_1] at c10r))
                clear c10
                simp only [Option.some.injEq, Prod.mk.injEq] at H
                obtain ⟨rfl, rfl⟩ := H
                go_wp2
                go_ret2
                exact ⟨_, by first | rfl | (simp [errW_none, errW_some] <;> rfl) | (simp [*, errW_none, errW_some] <;> rfl), by (with_reducible repeat (first | apply Kd.S_alloc | apply Kd.S_drewN | apply Kd.S_drew)); exact HO_6.out, by repeat (first | (with_reducible first | exact HB.out | apply below_alloc | apply pw_below_drewN | apply below_drew1) | exact HB.out)⟩
        · rw [if_neg c6] at H
          exact absurd H (by simp)
      · rw [if_neg c5] at H
        exact absurd H (by simp)

-- NOT PRINTED: function 55 (errors_New)

/-! ### reedsolomon_matrix_Multiply: function 47 -/
mutual
def reedsolomon_matrix_Multiply.l0 : Nat → List (List Int) → List (List Int) → List (List Int) → Int → Int → Option ((List (List Int)) × Option Int)
  | 0, _, _, _, _, _ => none
  | k + 1, x0, x1, x6, x32, x33 => if x33 < x32 then (if 0 ≤ x33 then (if x33 < (x6.length : Int) then (reedsolomon_matrix_Multiply.l1 k x0 x1 x6 x33 x32 x33 ((rd_L1 x6 x33).length : Int) 0) else (none)) else (none)) else (some (x6, none))
def reedsolomon_matrix_Multiply.l1 : Nat → List (List Int) → List (List Int) → List (List Int) → Int → Int → Int → Int → Int → Option ((List (List Int)) × Option Int)
  | 0, _, _, _, _, _, _, _, _ => none
  | k + 1, x0, x1, x6, x8, x32, x33, x39, x40 => if x40 < x39 then (if 0 < (x0.length : Int) then (reedsolomon_matrix_Multiply.l2 k x0 x1 x6 x8 x40 0 x32 x33 x39 x40 ((rd_L1 x0 0).length : Int) 0) else (none)) else (reedsolomon_matrix_Multiply.l0 k x0 x1 x6 x32 (wrap64 (x33 + 1)))
def reedsolomon_matrix_Multiply.l2 : Nat → List (List Int) → List (List Int) → List (List Int) → Int → Int → Int → Int → Int → Int → Int → Int → Int → Option ((List (List Int)) × Option Int)
  | 0, _, _, _, _, _, _, _, _, _, _, _, _ => none
  | k + 1, x0, x1, x6, x8, x10, x11, x32, x33, x39, x40, x46, x47 => if x47 < x46 then (if 0 ≤ x8 then (if x8 < (x0.length : Int) then (if 0 ≤ x47 then (if x47 < ((rd_L1 x0 x8).length : Int) then (if x47 < (x1.length : Int) then (if 0 ≤ x10 then (if x10 < ((rd_L1 x1 x47).length : Int) then ((reedsolomon_galMultiply.f (rd (rd_L1 x0 x8) x47) (rd (rd_L1 x1 x47) x10)).bind fun t140 => (reedsolomon_matrix_Multiply.l2 k x0 x1 x6 x8 x10 (Go.bits .xor .u8 x11 t140) x32 x33 x39 x40 x46 (wrap64 (x47 + 1)))) else (none)) else (none)) else (none)) else (none)) else (none)) else (none)) else (none)) else (if 0 ≤ x8 then (if x8 < (x6.length : Int) then (if 0 ≤ x10 then (if x10 < ((rd_L1 x6 x8).length : Int) then (reedsolomon_matrix_Multiply.l1 k x0 x1 (x6.set (x8 : Int).toNat ((rd_L1 x6 x8).set (x10 : Int).toNat x11)) x8 x32 x33 x39 (wrap64 (x40 + 1))) else (none)) else (none)) else (none)) else (none))
end
def reedsolomon_matrix_Multiply.f (k : Nat) (l0 : List (List Int)) (l1 : List (List Int)) : Option ((List (List Int)) × Option Int) := if 0 < (l0.length : Int) then (if ((rd_L1 l0 0).length : Int) = (l1.length : Int) then (if 0 < (l1.length : Int) then ((reedsolomon_newMatrix.f k (l0.length : Int) ((rd_L1 l1 0).length : Int)).bind fun bt130 => (reedsolomon_matrix_Multiply.l0 k l0 l1 bt130.1 (bt130.1.length : Int) 0)) else (none)) else (none)) else (none)
theorem reedsolomon_matrix_Multiply.mono_l : ∀ k, (∀ y0 y1 y2 y3 y4, LeO (reedsolomon_matrix_Multiply.l0 k y0 y1 y2 y3 y4) (reedsolomon_matrix_Multiply.l0 (k + 1) y0 y1 y2 y3 y4)) ∧ (∀ y0 y1 y2 y3 y4 y5 y6 y7, LeO (reedsolomon_matrix_Multiply.l1 k y0 y1 y2 y3 y4 y5 y6 y7) (reedsolomon_matrix_Multiply.l1 (k + 1) y0 y1 y2 y3 y4 y5 y6 y7)) ∧ (∀ y0 y1 y2 y3 y4 y5 y6 y7 y8 y9 y10 y11, LeO (reedsolomon_matrix_Multiply.l2 k y0 y1 y2 y3 y4 y5 y6 y7 y8 y9 y10 y11) (reedsolomon_matrix_Multiply.l2 (k + 1) y0 y1 y2 y3 y4 y5 y6 y7 y8 y9 y10 y11))
  | 0 => ⟨fun _ _ _ _ _ r h => by simp [reedsolomon_matrix_Multiply.l0] at h, fun _ _ _ _ _ _ _ _ r h => by simp [reedsolomon_matrix_Multiply.l1] at h, fun _ _ _ _ _ _ _ _ _ _ _ _ r h => by simp [reedsolomon_matrix_Multiply.l2] at h⟩
  | k + 1 => by
    obtain ⟨ih0, ih1, ih2⟩ := reedsolomon_matrix_Multiply.mono_l k
    refine ⟨?_, ?_, ?_⟩
    · intro y0 y1 y2 y3 y4
      unfold reedsolomon_matrix_Multiply.l0
      repeat' first
      | (with_reducible exact ih0 _ _ _ _ _)
      | (with_reducible exact ih1 _ _ _ _ _ _ _ _)
      | (with_reducible exact ih2 _ _ _ _ _ _ _ _ _ _ _ _)
      | (with_reducible exact reedsolomon_newMatrix.mono _ _ _)
      | (with_reducible exact LeO.refl _)
      | (with_reducible exact LeO.none _)
      | (with_reducible refine LeO.ite ?_ ?_)
      | (with_reducible refine LeO.bind ?_ (fun _ => ?_))
      | exact ih0 _ _ _ _ _
      | exact ih1 _ _ _ _ _ _ _ _
      | exact ih2 _ _ _ _ _ _ _ _ _ _ _ _
      | exact reedsolomon_newMatrix.mono _ _ _
      | exact LeO.none _
      | refine LeO.ite ?_ ?_
      | refine LeO.bind ?_ (fun _ => ?_)
    · intro y0 y1 y2 y3 y4 y5 y6 y7
      unfold reedsolomon_matrix_Multiply.l1
      repeat' first
      | (with_reducible exact ih0 _ _ _ _ _)
      | (with_reducible exact ih1 _ _ _ _ _ _ _ _)
      | (with_reducible exact ih2 _ _ _ _ _ _ _ _ _ _ _ _)
      | (with_reducible exact reedsolomon_newMatrix.mono _ _ _)
      | (with_reducible exact LeO.refl _)
      | (with_reducible exact LeO.none _)
      | (with_reducible refine LeO.ite ?_ ?_)
      | (with_reducible refine LeO.bind ?_ (fun _ => ?_))
      | exact ih0 _ _ _ _ _
      | exact ih1 _ _ _ _ _ _ _ _
      | exact ih2 _ _ _ _ _ _ _ _ _ _ _ _
      | exact reedsolomon_newMatrix.mono _ _ _
      | exact LeO.none _
      | refine LeO.ite ?_ ?_
      | refine LeO.bind ?_ (fun _ => ?_)
    · intro y0 y1 y2 y3 y4 y5 y6 y7 y8 y9 y10 y11
      unfold reedsolomon_matrix_Multiply.l2
      repeat' first
      | (with_reducible exact ih0 _ _ _ _ _)
      | (with_reducible exact ih1 _ _ _ _ _ _ _ _)
      | (with_reducible exact ih2 _ _ _ _ _ _ _ _ _ _ _ _)
      | (with_reducible exact reedsolomon_newMatrix.mono _ _ _)
      | (with_reducible exact LeO.refl _)
      | (with_reducible exact LeO.none _)
      | (with_reducible refine LeO.ite ?_ ?_)
      | (with_reducible refine LeO.bind ?_ (fun _ => ?_))
      | exact ih0 _ _ _ _ _
      | exact ih1 _ _ _ _ _ _ _ _
      | exact ih2 _ _ _ _ _ _ _ _ _ _ _ _
      | exact reedsolomon_newMatrix.mono _ _ _
      | exact LeO.none _
      | refine LeO.ite ?_ ?_
      | refine LeO.bind ?_ (fun _ => ?_)
theorem reedsolomon_matrix_Multiply.mono : ∀ a0 a1 k, LeO (reedsolomon_matrix_Multiply.f k a0 a1) (reedsolomon_matrix_Multiply.f (k + 1) a0 a1) := by
  intro a0 a1 k
  obtain ⟨ih0, ih1, ih2⟩ := reedsolomon_matrix_Multiply.mono_l k
  unfold reedsolomon_matrix_Multiply.f
  repeat' first
      | (with_reducible exact ih0 _ _ _ _ _)
      | (with_reducible exact ih1 _ _ _ _ _ _ _ _)
      | (with_reducible exact ih2 _ _ _ _ _ _ _ _ _ _ _ _)
      | (with_reducible exact reedsolomon_newMatrix.mono _ _ _)
      | (with_reducible exact LeO.refl _)
      | (with_reducible exact LeO.none _)
      | (with_reducible refine LeO.ite ?_ ?_)
      | (with_reducible refine LeO.bind ?_ (fun _ => ?_))
      | exact ih0 _ _ _ _ _
      | exact ih1 _ _ _ _ _ _ _ _
      | exact ih2 _ _ _ _ _ _ _ _ _ _ _ _
      | exact reedsolomon_newMatrix.mono _ _ _
      | exact LeO.none _
      | refine LeO.ite ?_ ?_
      | refine LeO.bind ?_ (fun _ => ?_)
set_option maxHeartbeats 8000000 in
set_option maxRecDepth 100000 in
theorem reedsolomon_matrix_Multiply.calls (k : Nat) (A0 : Option Addr) (c0 : Nat) (l0 : List (List Int)) (A1 : Option Addr) (c1 : Nat) (l1 : List (List Int)) (r1 : List (List Int)) (r2 : Option Int) (w : World) (hr0 : Kd.C (Kd.slice 5 (Kd.int .u8)) w A0 l0.length l0) (hc0 : l0.length ≤ c0) (hr1 : Kd.C (Kd.slice 5 (Kd.int .u8)) w A1 l1.length l1) (hc1 : l1.length ≤ c1) (HG_ : Glob w) (h : reedsolomon_matrix_Multiply.f k l0 l1 = some (r1, r2)) :
    Calls Tryd.prog 47 #[.slice A0 l0.length c0, .slice A1 l1.length c1] w fun e w' => ∃ v0_ : Value, e = .returned (.tuple #[v0_, errW r2]) ∧ Kd.S (Kd.slice 5 (Kd.int .u8)) 24 w' w.heap.size (fun _ => True) v0_ r1 ∧ Below w.heap.size w w' := by
  have HG := Aside0.mk HG_
  clear HG_
  have HR0 := Aside0.mk hr0
  have HC0 := Aside0.mk hc0
  clear hr0 hc0
  have HR1 := Aside0.mk hr1
  have HC1 := Aside0.mk hc1
  clear hr1 hc1
  have HB := Aside0.mk (Below.refl w.heap.size w)
  have H : (if 0 < (l0.length : Int) then (if ((rd_L1 l0 0).length : Int) = (l1.length : Int) then (if 0 < (l1.length : Int) then ((reedsolomon_newMatrix.f k (l0.length : Int) ((rd_L1 l1 0).length : Int)).bind fun bt130 => (reedsolomon_matrix_Multiply.l0 k l0 l1 bt130.1 (bt130.1.length : Int) 0)) else (none)) else (none)) else (none)) = some (r1, r2) := h
  clear h
  by_cases c3 : 0 < (l0.length : Int)
  · rw [if_pos c3] at H
    have c3b0 : decide (0 < (l0.length : Int)) = true := decide_eq_true c3
    have c3b1 : decide (0 < l0.length) = true := decide_eq_true (by omega)
    clear c3
    by_cases c4 : ((rd_L1 l0 0).length : Int) = (l1.length : Int)
    · rw [if_pos c4] at H
      have c4b0 : (((rd_L1 l0 0).length : Int) == (l1.length : Int)) = true := beq_iff_eq.mpr c4
      have c4b1 : (((rd_L1 l0 0).length : Int) != (l1.length : Int)) = false := bne_eq_false_iff_eq.mpr c4
      have c4b2 : ((rd_L1 l0 0).length == l1.length) = true := by first | simpa using c4 | (simp at c4 ⊢; omega)
      clear c4
      by_cases c5 : 0 < (l1.length : Int)
      · rw [if_pos c5] at H
        have c5b0 : decide (0 < (l1.length : Int)) = true := decide_eq_true c5
        have c5b1 : decide (0 < l1.length) = true := decide_eq_true (by omega)
        clear c5
        replace H := Option.bind_eq_some_iff.mp H
        obtain ⟨⟨t130, t131⟩, A60, H⟩ := H
        replace H : (reedsolomon_matrix_Multiply.l0 k l0 l1 t130 (t130.length : Int) 0) = some (r1, r2) := H
        have A6 := Aside0.mk A60
        clear A60
        have H' := Aside0.mk H
        clear H
        have p128 : 0 ≤ (0 : Int) := (by omega)
        have q128 : 0 < (l0.length : Int) := of_decide_eq_true (by first | (with_reducible assumption) | assumption)
        obtain ⟨ad128, A128_0, c128_0, e128, hx128_0, hl128_0, hi128_0⟩ := at_L1 HR0.out 0 p128 q128
        cases e128
        have qi128 : (0 < l0.length) = True := eq_true (by omega)
        (try rw [show ((0 : Int)).toNat = 0 from rfl] at hx128_0)
        (try rw [Addr.add_zero'] at hx128_0)
        have HR128_0 := Aside0.mk hi128_0
        have HC128_0 := Aside0.mk hl128_0
        clear hi128_0 hl128_0
        replace p128 := eq_true p128
        replace q128 := eq_true q128
        have p129 : 0 ≤ (0 : Int) := (by omega)
        have q129 : 0 < (l1.length : Int) := of_decide_eq_true (by first | (with_reducible assumption) | assumption)
        obtain ⟨ad129, A129_0, c129_0, e129, hx129_0, hl129_0, hi129_0⟩ := at_L1 HR1.out 0 p129 q129
        cases e129
        have qi129 : (0 < l1.length) = True := eq_true (by omega)
        (try rw [show ((0 : Int)).toNat = 0 from rfl] at hx129_0)
        (try rw [Addr.add_zero'] at hx129_0)
        have HR129_0 := Aside0.mk hi129_0
        have HC129_0 := Aside0.mk hl129_0
        clear hi129_0 hl129_0
        replace p129 := eq_true p129
        replace q129 := eq_true q129
        go_enter Tryd.func47, Tryd.ntmps47
        go_wp2_with (first | (go_at_call 53; (with_reducible refine (reedsolomon_newMatrix.calls k (l0.length : Int) ((rd_L1 l1 0).length : Int) t130 t131 _ A6.out).mono ?_); rintro e w7 ⟨v132, rfl, ho0, hb⟩; have n0_ := Aside0.mk (Kd.S_lower ho0 (below_size (by repeat (first | (with_reducible first | exact HB.out | apply below_alloc | apply pw_below_drewN | apply below_drew1) | exact HB.out)))); have n1_ := Aside0.mk (below_step (by repeat (first | (with_reducible first | exact HB.out | apply below_alloc | apply pw_below_drewN | apply below_drew1) | exact HB.out)) hb); clear HB; have HO133 := n0_; have HB := n1_; clear n0_ n1_; (try clear hb); (try clear hb2); (try clear hk); (try clear hi); (try clear ho0); (try simp only [errW_none, errW_some]); obtain ⟨Ao8, co8, eo8⟩ := Kd.S_slice HO133.out; subst eo8))
        repeat (go_quiet (first | (go_at_call 53; (with_reducible refine (reedsolomon_newMatrix.calls k (l0.length : Int) ((rd_L1 l1 0).length : Int) t130 t131 _ A6.out).mono ?_); rintro e w7 ⟨v132, rfl, ho0, hb⟩; have n0_ := Aside0.mk (Kd.S_lower ho0 (below_size (by repeat (first | (with_reducible first | exact HB.out | apply below_alloc | apply pw_below_drewN | apply below_drew1) | exact HB.out)))); have n1_ := Aside0.mk (below_step (by repeat (first | (with_reducible first | exact HB.out | apply below_alloc | apply pw_below_drewN | apply below_drew1) | exact HB.out)) hb); clear HB; have HO133 := n0_; have HB := n1_; clear n0_ n1_; (try clear hb); (try clear hb2); (try clear hk); (try clear hi); (try clear ho0); (try simp only [errW_none, errW_some]); obtain ⟨Ao8, co8, eo8⟩ := Kd.S_slice HO133.out; subst eo8)); try go_wp2_with (first | (go_at_call 53; (with_reducible refine (reedsolomon_newMatrix.calls k (l0.length : Int) ((rd_L1 l1 0).length : Int) t130 t131 _ A6.out).mono ?_); rintro e w7 ⟨v132, rfl, ho0, hb⟩; have n0_ := Aside0.mk (Kd.S_lower ho0 (below_size (by repeat (first | (with_reducible first | exact HB.out | apply below_alloc | apply pw_below_drewN | apply below_drew1) | exact HB.out)))); have n1_ := Aside0.mk (below_step (by repeat (first | (with_reducible first | exact HB.out | apply below_alloc | apply pw_below_drewN | apply below_drew1) | exact HB.out)) hb); clear HB; have HO133 := n0_; have HB := n1_; clear n0_ n1_; (try clear hb); (try clear hb2); (try clear hk); (try clear hi); (try clear ho0); (try simp only [errW_none, errW_some]); obtain ⟨Ao8, co8, eo8⟩ := Kd.S_slice HO133.out; subst eo8)))
        (try simp only [Act.put, List.setIfInBounds_toArray, List.set_cons_zero, List.set_cons_succ])
        go_loopg [33] k (fun kq v33 w' => ∃ (x6_1 : List (List Int)) (x33_1 : Int), v33 = .int .i64 x33_1 ∧ Aside0 (reedsolomon_matrix_Multiply.l0 kq l0 l1 x6_1 (t130.length : Int) x33_1 = some (r1, r2)) ∧ Aside0 (kq ≤ k) ∧ Aside0 (Kd.S (Kd.slice 5 (Kd.int .u8)) 24 w' w.heap.size (fun _ => True) (.slice Ao8 t130.length co8) x6_1) ∧ Aside0 (Below w.heap.size w w'))
        case atStart => exact ⟨(t130), (0), (by first | rfl | (simp; done) | (simp [*]; done)), H', ⟨Nat.le_refl _⟩, ⟨by (with_reducible repeat (first | apply Kd.S_alloc | apply Kd.S_drewN | apply Kd.S_drew)); exact HO133.out⟩, ⟨by repeat (first | (with_reducible first | exact HB.out | apply below_alloc | apply pw_below_drewN | apply below_drew1) | exact HB.out)⟩⟩
        case round =>
          clear H'
          try clear c1
          try clear p1
          try clear q1
          try clear hx1
          try clear qi1
          try clear p2
          try clear c3
          try clear c3b0
          try clear c3b1
          try clear c4
          try clear c4b0
          try clear c4b1
          try clear c4b2
          try clear c5
          try clear c5b0
          try clear c5b1
          try clear hx128_0
          try clear hx129_0
          try clear p128
          try clear p129
          try clear q128
          try clear q129
          obtain ⟨x6_1, x33_1, rfl, HA, HK1, HO_6, HB⟩ := hrel
          have hl6_1 := (Kd.S_reads' HO_6.out).1
          rw [hl6_1] at HO_6
          (try simp only [hl6_1])
          cases gk with
          | zero => exact absurd HA.out (by simp [reedsolomon_matrix_Multiply.l0])
          | succ k1 =>
            have H := HA.out
            clear HA
            simp only [reedsolomon_matrix_Multiply.l0] at H
            by_cases c9 : x33_1 < (t130.length : Int)
            · rw [if_pos c9] at H
              have c9b0 : decide (x33_1 < (t130.length : Int)) = true := decide_eq_true c9
              clear c9
              by_cases c10 : 0 ≤ x33_1
              · rw [if_pos c10] at H
                have c10b0 : decide (0 ≤ x33_1) = true := decide_eq_true c10
                clear c10
                by_cases c11 : x33_1 < (x6_1.length : Int)
                · rw [if_pos c11] at H
                  have c11b0 : decide (x33_1 < (x6_1.length : Int)) = true := decide_eq_true c11
                  clear c11
                  have H' := Aside0.mk H
                  clear H
                  have p134 : 0 ≤ (x33_1 : Int) := of_decide_eq_true (by first | (with_reducible assumption) | assumption)
                  have q134 : x33_1 < (x6_1.length : Int) := of_decide_eq_true (by first | (with_reducible assumption) | assumption)
                  obtain ⟨ad134, A134_0, c134_0, e134, hx134_0, hl134_0, hi134_0⟩ := at_L1 (Kd.S_reads' HO_6.out).2.2 x33_1 p134 q134
                  cases e134
                  obtain ⟨ce134, hce134, hMe134, hcc134⟩ := Kd.S_get HO_6.out [] x33_1 p134 (by first | exact q134 | exact of_decide_eq_true (by first | (with_reducible assumption) | assumption) | (have e_ := (Kd.S_reads' HO_6.out).1; omega))
                  obtain ⟨ve134_0, rfl, ge134_0⟩ := hMe134
                  have hv134_0 := hcc134 0 _ rfl
                  rw [Nat.add_zero, show ((Kd.slice 5 (Kd.int .u8))).sz = 1 from rfl, Nat.mul_one] at hv134_0
                  replace hv134_0 := Option.some.inj (hv134_0.symm.trans hx134_0)
                  rw [hv134_0] at ge134_0
                  have HL134_0 := Aside0.mk (show Kd.R (Kd.int .u8) 5 _ _ _ _ (rd_L1 x6_1 x33_1) from ge134_0)
                  clear hv134_0 ge134_0
                  have HX134_0 := Aside0.mk hx134_0
                  clear hcc134 hce134
                  have HR134_0 := Aside0.mk hi134_0
                  have HC134_0 := Aside0.mk hl134_0
                  clear hi134_0 hl134_0
                  replace p134 := eq_true p134
                  replace q134 := eq_true q134
                  go_wp2
                  repeat (go_quiet (fail); try go_wp2)
                  (try simp only [Act.put, List.setIfInBounds_toArray, List.set_cons_zero, List.set_cons_succ])
                  go_loopg [40] k1 (fun kq v40 w' => ∃ (x6_2 : List (List Int)) (x40_2 : Int), v40 = .int .i64 x40_2 ∧ Aside0 (reedsolomon_matrix_Multiply.l1 kq l0 l1 x6_2 x33_1 (t130.length : Int) x33_1 ((rd_L1 x6_1 x33_1).length : Int) x40_2 = some (r1, r2)) ∧ Aside0 (kq ≤ k1) ∧ Aside0 (Kd.S (Kd.slice 5 (Kd.int .u8)) 24 w' w.heap.size (fun _ => True) (.slice (some ad134) x6_1.length co8) x6_2) ∧ Aside0 (Below w.heap.size w w'))
                  case atStart => exact ⟨(x6_1), (0), (by first | rfl | (simp; done) | (simp [*]; done)), H', ⟨Nat.le_refl _⟩, ⟨by (try simp only [hl6_1]); (with_reducible repeat (first | apply Kd.S_alloc | apply Kd.S_drewN | apply Kd.S_drew)); exact HO_6.out⟩, ⟨by repeat (first | (with_reducible first | exact HB.out | apply below_alloc | apply pw_below_drewN | apply below_drew1) | exact HB.out)⟩⟩
                  case round =>
                    clear H'
                    try clear c1
                    try clear p1
                    try clear q1
                    try clear hx1
                    try clear qi1
                    try clear p2
                    try clear c3
                    try clear c3b0
                    try clear c3b1
                    try clear c4
                    try clear c4b0
                    try clear c4b1
                    try clear c4b2
                    try clear c5
                    try clear c5b0
                    try clear c5b1
                    try clear c9
                    try clear c9b0
                    try clear c10
                    try clear c10b0
                    try clear c11
                    try clear c11b0
                    try clear hx128_0
                    try clear hx129_0
                    try clear hx134_0
                    try clear p1
                    try clear p128
                    try clear p129
                    try clear p134
                    try clear p2
                    try clear q1
                    try clear q128
                    try clear q129
                    try clear q134
                    obtain ⟨x6_2, x40_2, rfl, HA, HK2, HO_6, HB⟩ := hrel
                    have hl6_2 := (Kd.S_reads' HO_6.out).1
                    rw [hl6_2] at HO_6
                    (try simp only [hl6_2])
                    cases gk with
                    | zero => exact absurd HA.out (by simp [reedsolomon_matrix_Multiply.l1])
                    | succ k2 =>
                      have H := HA.out
                      clear HA
                      simp only [reedsolomon_matrix_Multiply.l1] at H
                      by_cases c12 : x40_2 < ((rd_L1 x6_1 x33_1).length : Int)
                      · rw [if_pos c12] at H
                        have c12b0 : decide (x40_2 < ((rd_L1 x6_1 x33_1).length : Int)) = true := decide_eq_true c12
                        clear c12
                        by_cases c13 : 0 < (l0.length : Int)
                        · rw [if_pos c13] at H
                          have c13b0 : decide (0 < (l0.length : Int)) = true := decide_eq_true c13
                          have c13b1 : decide (0 < l0.length) = true := decide_eq_true (by omega)
                          clear c13
                          have H' := Aside0.mk H
                          clear H
                          have p135 : 0 ≤ (0 : Int) := (by omega)
                          have q135 : 0 < (l0.length : Int) := of_decide_eq_true (by first | (with_reducible assumption) | assumption)
                          obtain ⟨ad135, A135_0, c135_0, e135, hx135_0, hl135_0, hi135_0⟩ := at_L1 HR0.out 0 p135 q135
                          obtain rfl : ad128 = ad135 := (by injection e135)
                          have qi135 : (0 < l0.length) = True := eq_true (by omega)
                          (try rw [show ((0 : Int)).toNat = 0 from rfl] at hx135_0)
                          (try rw [Addr.add_zero'] at hx135_0)
                          (try replace hx135_0 := (HB.out.cell (World.block_lt_of_cell? w _ hx135_0)).trans hx135_0)
                          have HR135_0 := Aside0.mk hi135_0
                          have HC135_0 := Aside0.mk hl135_0
                          clear hi135_0 hl135_0
                          replace p135 := eq_true p135
                          replace q135 := eq_true q135
                          go_wp2
                          repeat (go_quiet (fail); try go_wp2)
                          (try simp only [Act.put, List.setIfInBounds_toArray, List.set_cons_zero, List.set_cons_succ])
                          go_loopg [11, 47] k2 (fun kq v11 v47 w' => ∃ (x11_3 : Int) (x47_3 : Int), v11 = .int .u8 x11_3 ∧ v47 = .int .i64 x47_3 ∧ Aside0 (reedsolomon_matrix_Multiply.l2 kq l0 l1 x6_2 x33_1 x40_2 x11_3 (t130.length : Int) x33_1 ((rd_L1 x6_1 x33_1).length : Int) x40_2 ((rd_L1 l0 0).length : Int) x47_3 = some (r1, r2)) ∧ Aside0 (kq ≤ k2) ∧ Aside0 (Kd.S (Kd.slice 5 (Kd.int .u8)) 24 w' w.heap.size (fun _ => True) (.slice (some ad134) x6_2.length co8) x6_2) ∧ Aside0 (Below w.heap.size w w'))
                          case atStart => exact ⟨(0), (0), (by first | rfl | (simp; done) | (simp [*]; done)), (by first | rfl | (simp; done) | (simp [*]; done)), H', ⟨Nat.le_refl _⟩, ⟨by (try simp only [hl6_1]); (try simp only [hl6_2]); (with_reducible repeat (first | apply Kd.S_alloc | apply Kd.S_drewN | apply Kd.S_drew)); exact HO_6.out⟩, ⟨by repeat (first | (with_reducible first | exact HB.out | apply below_alloc | apply pw_below_drewN | apply below_drew1) | exact HB.out)⟩⟩
                          case round =>
                            clear H'
                            try clear c1
                            try clear p1
                            try clear q1
                            try clear hx1
                            try clear qi1
                            try clear p2
                            try clear c3
                            try clear c3b0
                            try clear c3b1
                            try clear c4
                            try clear c4b0
                            try clear c4b1
                            try clear c4b2
                            try clear c5
                            try clear c5b0
                            try clear c5b1
                            try clear c9
                            try clear c9b0
                            try clear c10
                            try clear c10b0
                            try clear c11
                            try clear c11b0
                            try clear c12
                            try clear c12b0
                            try clear p12
                            try clear q12
                            try clear hx12
                            try clear qi12
                            try clear c13
                            try clear c13b0
                            try clear c13b1
                            try clear p13
                            try clear q13
                            try clear hx13
                            try clear qi13
                            try clear hx128_0
                            try clear hx129_0
                            try clear hx134_0
                            try clear hx135_0
                            try clear p1
                            try clear p128
                            try clear p129
                            try clear p134
                            try clear p135
                            try clear p2
                            try clear q1
                            try clear q128
                            try clear q129
                            try clear q134
                            try clear q135
                            obtain ⟨x11_3, x47_3, rfl, rfl, HA, HK3, HO_6, HB⟩ := hrel
                            cases gk with
                            | zero => exact absurd HA.out (by simp [reedsolomon_matrix_Multiply.l2])
                            | succ k3 =>
                              have H := HA.out
                              clear HA
                              simp only [reedsolomon_matrix_Multiply.l2] at H
                              by_cases c14 : x47_3 < ((rd_L1 l0 0).length : Int)
                              · rw [if_pos c14] at H
                                have c14b0 : decide (x47_3 < ((rd_L1 l0 0).length : Int)) = true := decide_eq_true c14
                                clear c14
                                by_cases c15 : 0 ≤ x33_1
                                · rw [if_pos c15] at H
                                  have c15b0 : decide (0 ≤ x33_1) = true := decide_eq_true c15
                                  clear c15
                                  by_cases c16 : x33_1 < (l0.length : Int)
                                  · rw [if_pos c16] at H
                                    have c16b0 : decide (x33_1 < (l0.length : Int)) = true := decide_eq_true c16
                                    clear c16
                                    by_cases c17 : 0 ≤ x47_3
                                    · rw [if_pos c17] at H
                                      have c17b0 : decide (0 ≤ x47_3) = true := decide_eq_true c17
                                      clear c17
                                      by_cases c18 : x47_3 < ((rd_L1 l0 x33_1).length : Int)
                                      · rw [if_pos c18] at H
                                        have c18b0 : decide (x47_3 < ((rd_L1 l0 x33_1).length : Int)) = true := decide_eq_true c18
                                        clear c18
                                        by_cases c19 : x47_3 < (l1.length : Int)
                                        · rw [if_pos c19] at H
                                          have c19b0 : decide (x47_3 < (l1.length : Int)) = true := decide_eq_true c19
                                          clear c19
                                          by_cases c20 : 0 ≤ x40_2
                                          · rw [if_pos c20] at H
                                            have c20b0 : decide (0 ≤ x40_2) = true := decide_eq_true c20
                                            clear c20
                                            by_cases c21 : x40_2 < ((rd_L1 l1 x47_3).length : Int)
                                            · rw [if_pos c21] at H
                                              have c21b0 : decide (x40_2 < ((rd_L1 l1 x47_3).length : Int)) = true := decide_eq_true c21
                                              clear c21
                                              replace H := Option.bind_eq_some_iff.mp H
                                              obtain ⟨t140, A220, H⟩ := H
                                              replace H : (reedsolomon_matrix_Multiply.l2 k3 l0 l1 x6_2 x33_1 x40_2 (Go.bits .xor .u8 x11_3 t140) (t130.length : Int) x33_1 ((rd_L1 x6_1 x33_1).length : Int) x40_2 ((rd_L1 l0 0).length : Int) (wrap64 (x47_3 + 1))) = some (r1, r2) := H
                                              have A22 := Aside0.mk A220
                                              clear A220
                                              have H' := Aside0.mk H
                                              clear H
                                              have p136 : 0 ≤ (x33_1 : Int) := of_decide_eq_true (by first | (with_reducible assumption) | assumption)
                                              have q136 : x33_1 < (l0.length : Int) := of_decide_eq_true (by first | (with_reducible assumption) | assumption)
                                              obtain ⟨ad136, A136_0, c136_0, e136, hx136_0, hl136_0, hi136_0⟩ := at_L1 HR0.out x33_1 p136 q136
                                              obtain rfl : ad128 = ad136 := (by injection e136)
                                              (try replace hx136_0 := (HB.out.cell (World.block_lt_of_cell? w _ hx136_0)).trans hx136_0)
                                              have HR136_0 := Aside0.mk hi136_0
                                              have HC136_0 := Aside0.mk hl136_0
                                              clear hi136_0 hl136_0
                                              replace p136 := eq_true p136
                                              replace q136 := eq_true q136
                                              have p137 : 0 ≤ (x47_3 : Int) := of_decide_eq_true (by first | (with_reducible assumption) | assumption)
                                              have q137 : x47_3 < ((rd_L1 l0 x33_1).length : Int) := of_decide_eq_true (by first | (with_reducible assumption) | assumption)
                                              obtain ⟨ad137, e137, hx137_0⟩ := Kd.at_int HR136_0.out x47_3 p137 q137
                                              cases e137
                                              (try replace hx137_0 := (HB.out.cell (World.block_lt_of_cell? w _ hx137_0)).trans hx137_0)
                                              replace p137 := eq_true p137
                                              replace q137 := eq_true q137
                                              have p138 : 0 ≤ (x47_3 : Int) := of_decide_eq_true (by first | (with_reducible assumption) | assumption)
                                              have q138 : x47_3 < (l1.length : Int) := of_decide_eq_true (by first | (with_reducible assumption) | assumption)
                                              obtain ⟨ad138, A138_0, c138_0, e138, hx138_0, hl138_0, hi138_0⟩ := at_L1 HR1.out x47_3 p138 q138
                                              obtain rfl : ad129 = ad138 := (by injection e138)
                                              (try replace hx138_0 := (HB.out.cell (World.block_lt_of_cell? w _ hx138_0)).trans hx138_0)
                                              have HR138_0 := Aside0.mk hi138_0
                                              have HC138_0 := Aside0.mk hl138_0
                                              clear hi138_0 hl138_0
                                              replace p138 := eq_true p138
                                              replace q138 := eq_true q138
                                              have p139 : 0 ≤ (x40_2 : Int) := of_decide_eq_true (by first | (with_reducible assumption) | assumption)
                                              have q139 : x40_2 < ((rd_L1 l1 x47_3).length : Int) := of_decide_eq_true (by first | (with_reducible assumption) | assumption)
                                              obtain ⟨ad139, e139, hx139_0⟩ := Kd.at_int HR138_0.out x40_2 p139 q139
                                              cases e139
                                              (try replace hx139_0 := (HB.out.cell (World.block_lt_of_cell? w _ hx139_0)).trans hx139_0)
                                              replace p139 := eq_true p139
                                              replace q139 := eq_true q139
                                              go_wp2_with (first | (go_at_call 42; (with_reducible refine (reedsolomon_galMultiply.calls (rd (rd_L1 l0 x33_1) x47_3) (rd (rd_L1 l1 x47_3) x40_2) t140 _ ?side1 A22.out).mono ?_); (case side1 => first | exact HG.out | exact Glob.drewN HG.out _ | exact Glob.below HG.out (by repeat (first | (with_reducible first | exact HB.out | apply below_alloc | apply pw_below_drewN | apply below_drew1) | exact HB.out))); rintro e w' ⟨rfl, ⟨nd, rfl⟩⟩; (try first | exact ⟨rfl, _, World.drewN_drewN _ _ _⟩ | exact ⟨rfl, _, Eq.trans (World.drewN_drewN _ _ _) (congrArg (World.drewN _) (Nat.add_assoc _ _ _))⟩)))
                                              repeat (go_quiet (first | (go_at_call 42; (with_reducible refine (reedsolomon_galMultiply.calls (rd (rd_L1 l0 x33_1) x47_3) (rd (rd_L1 l1 x47_3) x40_2) t140 _ ?side1 A22.out).mono ?_); (case side1 => first | exact HG.out | exact Glob.drewN HG.out _ | exact Glob.below HG.out (by repeat (first | (with_reducible first | exact HB.out | apply below_alloc | apply pw_below_drewN | apply below_drew1) | exact HB.out))); rintro e w' ⟨rfl, ⟨nd, rfl⟩⟩; (try first | exact ⟨rfl, _, World.drewN_drewN _ _ _⟩ | exact ⟨rfl, _, Eq.trans (World.drewN_drewN _ _ _) (congrArg (World.drewN _) (Nat.add_assoc _ _ _))⟩))); try go_wp2_with (first | (go_at_call 42; (with_reducible refine (reedsolomon_galMultiply.calls (rd (rd_L1 l0 x33_1) x47_3) (rd (rd_L1 l1 x47_3) x40_2) t140 _ ?side1 A22.out).mono ?_); (case side1 => first | exact HG.out | exact Glob.drewN HG.out _ | exact Glob.below HG.out (by repeat (first | (with_reducible first | exact HB.out | apply below_alloc | apply pw_below_drewN | apply below_drew1) | exact HB.out))); rintro e w' ⟨rfl, ⟨nd, rfl⟩⟩; (try first | exact ⟨rfl, _, World.drewN_drewN _ _ _⟩ | exact ⟨rfl, _, Eq.trans (World.drewN_drewN _ _ _) (congrArg (World.drewN _) (Nat.add_assoc _ _ _))⟩))))
                                              go_roundg k3
                                              case measure => have := HK1.out; have := HK2.out; have := HK3.out; omega
                                              case rel => exact ⟨(Go.bits .xor .u8 x11_3 t140), (wrap64 (x47_3 + 1)), (by first | rfl | (simp; done) | (simp [*]; done)), (by first | rfl | (simp; done) | (simp [*]; done)), H', ⟨by have := HK1.out; have := HK2.out; have := HK3.out; omega⟩, ⟨by (try simp only [hl6_1]); (try simp only [hl6_2]); (with_reducible repeat (first | apply Kd.S_alloc | apply Kd.S_drewN | apply Kd.S_drew)); exact HO_6.out⟩, ⟨by repeat (first | (with_reducible first | exact HB.out | apply below_alloc | apply pw_below_drewN | apply below_drew1) | exact HB.out)⟩⟩
                                            · rw [if_neg c21] at H
                                              exact absurd H (by simp)
                                          · rw [if_neg c20] at H
                                            exact absurd H (by simp)
                                        · rw [if_neg c19] at H
                                          exact absurd H (by simp)
                                      · rw [if_neg c18] at H
                                        exact absurd H (by simp)
                                    · rw [if_neg c17] at H
                                      exact absurd H (by simp)
                                  · rw [if_neg c16] at H
                                    exact absurd H (by simp)
                                · rw [if_neg c15] at H
                                  exact absurd H (by simp)
                              · rw [if_neg c14] at H
                                have c14b0 : decide (x47_3 < ((rd_L1 l0 0).length : Int)) = false := decide_eq_false c14
                                clear c14
                                by_cases c23 : 0 ≤ x33_1
                                · rw [if_pos c23] at H
                                  have c23b0 : decide (0 ≤ x33_1) = true := decide_eq_true c23
                                  clear c23
                                  by_cases c24 : x33_1 < (x6_2.length : Int)
                                  · rw [if_pos c24] at H
                                    have c24b0 : decide (x33_1 < (x6_2.length : Int)) = true := decide_eq_true c24
                                    clear c24
                                    by_cases c25 : 0 ≤ x40_2
                                    · rw [if_pos c25] at H
                                      have c25b0 : decide (0 ≤ x40_2) = true := decide_eq_true c25
                                      clear c25
                                      by_cases c26 : x40_2 < ((rd_L1 x6_2 x33_1).length : Int)
                                      · rw [if_pos c26] at H
                                        have c26b0 : decide (x40_2 < ((rd_L1 x6_2 x33_1).length : Int)) = true := decide_eq_true c26
                                        clear c26
                                        obtain ⟨y142, hy142⟩ : ∃ y_ : List Int, y_ = ((rd_L1 x6_2 x33_1).set (x40_2 : Int).toNat x11_3) := ⟨_, rfl⟩
                                        replace H : (reedsolomon_matrix_Multiply.l1 k3 l0 l1 (x6_2.set (x33_1 : Int).toNat y142) x33_1 (t130.length : Int) x33_1 ((rd_L1 x6_1 x33_1).length : Int) (wrap64 (x40_2 + 1))) = some (r1, r2) := by first | (rw [hy142]; with_reducible exact H) | (have H2_ := (Option.bind_some _ _).symm.trans H; rw [hy142]; with_reducible exact H2_) | (have H2_ := (Option.bind_some _ _).symm.trans H; with_reducible exact H2_) | with_reducible exact H | (rw [hy142]; exact H) | exact H
                                        have Ny142 := Aside0.mk hy142
                                        clear hy142
                                        obtain ⟨y144, hy144⟩ : ∃ y_ : List (List Int), y_ = (x6_2.set (x33_1 : Int).toNat y142) := ⟨_, rfl⟩
                                        replace H : (reedsolomon_matrix_Multiply.l1 k3 l0 l1 y144 x33_1 (t130.length : Int) x33_1 ((rd_L1 x6_1 x33_1).length : Int) (wrap64 (x40_2 + 1))) = some (r1, r2) := by first | (rw [hy144]; with_reducible exact H) | (have H2_ := (Option.bind_some _ _).symm.trans H; rw [hy144]; with_reducible exact H2_) | (have H2_ := (Option.bind_some _ _).symm.trans H; with_reducible exact H2_) | with_reducible exact H | (rw [hy144]; exact H) | exact H
                                        have Ny144 := Aside0.mk hy144
                                        clear hy144
                                        have H' := Aside0.mk H
                                        clear H
                                        have p141 : 0 ≤ (x33_1 : Int) := of_decide_eq_true (by first | (with_reducible assumption) | assumption)
                                        have q141 : x33_1 < (x6_2.length : Int) := of_decide_eq_true (by first | (with_reducible assumption) | assumption)
                                        obtain ⟨ad141, A141_0, c141_0, e141, hx141_0, hl141_0, hi141_0⟩ := at_L1 (Kd.S_reads' HO_6.out).2.2 x33_1 p141 q141
                                        obtain rfl : ad134 = ad141 := (by injection e141)
                                        obtain ⟨ce141, hce141, hMe141, hcc141⟩ := Kd.S_get HO_6.out [] x33_1 p141 (by first | exact q141 | exact of_decide_eq_true (by first | (with_reducible assumption) | assumption) | (have e_ := (Kd.S_reads' HO_6.out).1; omega))
                                        obtain ⟨ve141_0, rfl, ge141_0⟩ := hMe141
                                        have hv141_0 := hcc141 0 _ rfl
                                        rw [Nat.add_zero, show ((Kd.slice 5 (Kd.int .u8))).sz = 1 from rfl, Nat.mul_one] at hv141_0
                                        replace hv141_0 := Option.some.inj (hv141_0.symm.trans hx141_0)
                                        rw [hv141_0] at ge141_0
                                        have HL141_0 := Aside0.mk (show Kd.R (Kd.int .u8) 5 _ _ _ _ (rd_L1 x6_2 x33_1) from ge141_0)
                                        clear hv141_0 ge141_0
                                        have HX141_0 := Aside0.mk hx141_0
                                        clear hcc141 hce141
                                        have HR141_0 := Aside0.mk hi141_0
                                        have HC141_0 := Aside0.mk hl141_0
                                        clear hi141_0 hl141_0
                                        replace p141 := eq_true p141
                                        replace q141 := eq_true q141
                                        have p27 : 0 ≤ (x40_2 : Int) := of_decide_eq_true (by first | (with_reducible assumption) | assumption)
                                        have q27 : (x40_2 : Int) < (((rd_L1 x6_2 x33_1).length : Int) : Int) := of_decide_eq_true (by first | (with_reducible assumption) | assumption)
                                        obtain ⟨go27, co27, eo27, gb27, gl27, cl27, HG27⟩ := Kd.R_form HL141_0.out (by omega)
                                        (first | cases eo27 | (injection eo27 with ea_ en_ ec_; (first | subst ea_ | (injection ea_ with ea_; subst ea_)); subst ec_; clear en_))
                                        have GB27 := Aside0.mk gb27
                                        have GG27 := Aside0.mk HG27
                                        clear gb27 gl27 HG27
                                        obtain ⟨hx27_0, hf27_0⟩ := Kd.R_celln 0 HL141_0.out (x40_2 : Int) p27 q27
                                        replace p27 := eq_true p27
                                        replace q27 := eq_true q27
                                        have hq28 : (x33_1 : Int) < (x6_2.length : Int) := (by have h_ : (x33_1 : Int) < ((x6_2.length : Int) : Int) := of_decide_eq_true (by first | (with_reducible assumption) | assumption); first | exact h_ | (have e_ := (Kd.S_reads' HO_6.out).1; omega) | simpa only [List.length_set, List.length_set] using h_)
                                        obtain ⟨oki28, ce28, hcl28, hM28, hcc28, hok28, hbk28⟩ := Kd.S_borrow HO_6.out [] (x33_1 : Int) (of_decide_eq_true (by first | (with_reducible assumption) | assumption)) hq28
                                        obtain ⟨ve28_0, rfl, ge28_0⟩ := hM28
                                        have hv28 := hcc28 0 _ rfl
                                        rw [Nat.add_zero, show ((Kd.slice 5 (Kd.int .u8))).sz = 1 from rfl, Nat.mul_one] at hv28
                                        replace hv28 := Option.some.inj (hv28.symm.trans HX141_0.out)
                                        subst hv28
                                        clear hcc28 hcl28
                                        replace ge28_0 := (show Kd.R (Kd.int .u8) 5 _ _ _ _ (rd_L1 x6_2 x33_1) from ge28_0)
                                        have HP28 := Kd.R_putg ge28_0 (x40_2 : Int) x11_3
                                        go_wp2_with (first | ((with_reducible refine gate_store (t := 5) (p := 74) rfl ?_); (try (rw [drewN_self wr]; generalize hq_ : World.drewN wr _ = wr; have n0_ := Aside0.mk (Kd.S_at hq_ HO_6.out); have n1_ := Aside0.mk (Kd.R_at hq_ HL145.out); have n2_ := Aside0.mk (below_at hq_ HB.out); clear hq_ HO_6 HL145 HB; have HO_6 := n0_; have HL145 := n1_; have HB := n2_; clear n0_ n1_ n2_; (try (have hq28 : (x33_1 : Int) < (x6_2.length : Int) := (by have h_ : (x33_1 : Int) < ((x6_2.length : Int) : Int) := of_decide_eq_true (by first | (with_reducible assumption) | assumption); first | exact h_ | (have e_ := (Kd.S_reads' HO_6.out).1; omega) | simpa only [List.length_set, List.length_set] using h_))); (try (obtain ⟨oki28, ce28, hcl28, hM28, hcc28, hok28, hbk28⟩ := Kd.S_borrow HO_6.out [] (x33_1 : Int) (of_decide_eq_true (by first | (with_reducible assumption) | assumption)) hq28)); (try (obtain ⟨ve28_0, rfl, ge28_0⟩ := hM28)); (try (have hv28 := hcc28 0 _ rfl)); (try (rw [Nat.add_zero, show ((Kd.slice 5 (Kd.int .u8))).sz = 1 from rfl, Nat.mul_one] at hv28)); (try (replace hv28 := Option.some.inj (hv28.symm.trans HX141_0.out))); (try (subst hv28)); (try (clear hcc28 hcl28)); (try (replace ge28_0 := (show Kd.R (Kd.int .u8) 5 _ _ _ _ (rd_L1 x6_2 x33_1) from ge28_0))); (try (have HP28 := Kd.R_putg ge28_0 (x40_2 : Int) x11_3)))); refine store_event (t := 5) (p := 74) (v := ?vo_w29) (w1 := (wr.setCell ⟨go27, (x40_2 : Int).toNat, none⟩ (.int .u8 x11_3))) ?hg ?ho ?hn ?hr ?_; (case ho => rfl); (case hg => rfl); (case hn => rfl); (case hr => first | (go_simp; done) | (go_simp; rfl)); intro w29 hw; have hg : wr.grownBy w29 (some go27) := (by rw [hw]; exact HP28.2); have hz_ : Kd.R (Kd.int .u8) 5 w29 w.heap.size oki28 (.slice (some ⟨go27, 0, none⟩) (rd_L1 x6_2 x33_1).length c141_0) y142 := (by rw [hw, Ny142.out]; exact HP28.1); have hp_ : Kd.S (Kd.slice 5 (Kd.int .u8)) 24 w29 w.heap.size (fun _ => True) (.slice (some ad134) x6_2.length co8) y144 := (by rw [Ny144.out]; exact hbk28 hg (fun k_ e_ => by injection e_ with e_; subst e_; exact ge28_0.1 _ rfl) (Kd.M_row hz_)); have hm_ := Kd.R_mono hz_ hok28; clear HP28 hbk28; have n0_ := Aside0.mk (hp_); have n1_ := Aside0.mk ((by rw [hw]; exact below_set (HB.out) GB27.out : Below w.heap.size w w29)); have n2_ := Aside0.mk (hm_); have n3_ := Aside0.mk ((Kd.R_reads' hm_).2.1); clear HO_6; clear HB; clear HL141_0; have HO_6 := n0_; have HB := n1_; have HL145 := n2_; have HC143 := n3_; clear n0_ n1_ n2_ n3_; clear hg hw hp_ hz_ hm_ hok28))
                                        repeat (go_quiet (first | ((with_reducible refine gate_store (t := 5) (p := 74) rfl ?_); (try (rw [drewN_self wr]; generalize hq_ : World.drewN wr _ = wr; have n0_ := Aside0.mk (Kd.S_at hq_ HO_6.out); have n1_ := Aside0.mk (Kd.R_at hq_ HL145.out); have n2_ := Aside0.mk (below_at hq_ HB.out); clear hq_ HO_6 HL145 HB; have HO_6 := n0_; have HL145 := n1_; have HB := n2_; clear n0_ n1_ n2_; (try (have hq28 : (x33_1 : Int) < (x6_2.length : Int) := (by have h_ : (x33_1 : Int) < ((x6_2.length : Int) : Int) := of_decide_eq_true (by first | (with_reducible assumption) | assumption); first | exact h_ | (have e_ := (Kd.S_reads' HO_6.out).1; omega) | simpa only [List.length_set, List.length_set] using h_))); (try (obtain ⟨oki28, ce28, hcl28, hM28, hcc28, hok28, hbk28⟩ := Kd.S_borrow HO_6.out [] (x33_1 : Int) (of_decide_eq_true (by first | (with_reducible assumption) | assumption)) hq28)); (try (obtain ⟨ve28_0, rfl, ge28_0⟩ := hM28)); (try (have hv28 := hcc28 0 _ rfl)); (try (rw [Nat.add_zero, show ((Kd.slice 5 (Kd.int .u8))).sz = 1 from rfl, Nat.mul_one] at hv28)); (try (replace hv28 := Option.some.inj (hv28.symm.trans HX141_0.out))); (try (subst hv28)); (try (clear hcc28 hcl28)); (try (replace ge28_0 := (show Kd.R (Kd.int .u8) 5 _ _ _ _ (rd_L1 x6_2 x33_1) from ge28_0))); (try (have HP28 := Kd.R_putg ge28_0 (x40_2 : Int) x11_3)))); refine store_event (t := 5) (p := 74) (v := ?vo_w29) (w1 := (wr.setCell ⟨go27, (x40_2 : Int).toNat, none⟩ (.int .u8 x11_3))) ?hg ?ho ?hn ?hr ?_; (case ho => rfl); (case hg => rfl); (case hn => rfl); (case hr => first | (go_simp; done) | (go_simp; rfl)); intro w29 hw; have hg : wr.grownBy w29 (some go27) := (by rw [hw]; exact HP28.2); have hz_ : Kd.R (Kd.int .u8) 5 w29 w.heap.size oki28 (.slice (some ⟨go27, 0, none⟩) (rd_L1 x6_2 x33_1).length c141_0) y142 := (by rw [hw, Ny142.out]; exact HP28.1); have hp_ : Kd.S (Kd.slice 5 (Kd.int .u8)) 24 w29 w.heap.size (fun _ => True) (.slice (some ad134) x6_2.length co8) y144 := (by rw [Ny144.out]; exact hbk28 hg (fun k_ e_ => by injection e_ with e_; subst e_; exact ge28_0.1 _ rfl) (Kd.M_row hz_)); have hm_ := Kd.R_mono hz_ hok28; clear HP28 hbk28; have n0_ := Aside0.mk (hp_); have n1_ := Aside0.mk ((by rw [hw]; exact below_set (HB.out) GB27.out : Below w.heap.size w w29)); have n2_ := Aside0.mk (hm_); have n3_ := Aside0.mk ((Kd.R_reads' hm_).2.1); clear HO_6; clear HB; clear HL141_0; have HO_6 := n0_; have HB := n1_; have HL145 := n2_; have HC143 := n3_; clear n0_ n1_ n2_ n3_; clear hg hw hp_ hz_ hm_ hok28)); try go_wp2_with (first | ((with_reducible refine gate_store (t := 5) (p := 74) rfl ?_); (try (rw [drewN_self wr]; generalize hq_ : World.drewN wr _ = wr; have n0_ := Aside0.mk (Kd.S_at hq_ HO_6.out); have n1_ := Aside0.mk (Kd.R_at hq_ HL145.out); have n2_ := Aside0.mk (below_at hq_ HB.out); clear hq_ HO_6 HL145 HB; have HO_6 := n0_; have HL145 := n1_; have HB := n2_; clear n0_ n1_ n2_; (try (have hq28 : (x33_1 : Int) < (x6_2.length : Int) := (by have h_ : (x33_1 : Int) < ((x6_2.length : Int) : Int) := of_decide_eq_true (by first | (with_reducible assumption) | assumption); first | exact h_ | (have e_ := (Kd.S_reads' HO_6.out).1; omega) | simpa only [List.length_set, List.length_set] using h_))); (try (obtain ⟨oki28, ce28, hcl28, hM28, hcc28, hok28, hbk28⟩ := Kd.S_borrow HO_6.out [] (x33_1 : Int) (of_decide_eq_true (by first | (with_reducible assumption) | assumption)) hq28)); (try (obtain ⟨ve28_0, rfl, ge28_0⟩ := hM28)); (try (have hv28 := hcc28 0 _ rfl)); (try (rw [Nat.add_zero, show ((Kd.slice 5 (Kd.int .u8))).sz = 1 from rfl, Nat.mul_one] at hv28)); (try (replace hv28 := Option.some.inj (hv28.symm.trans HX141_0.out))); (try (subst hv28)); (try (clear hcc28 hcl28)); (try (replace ge28_0 := (show Kd.R (Kd.int .u8) 5 _ _ _ _ (rd_L1 x6_2 x33_1) from ge28_0))); (try (have HP28 := Kd.R_putg ge28_0 (x40_2 : Int) x11_3)))); refine store_event (t := 5) (p := 74) (v := ?vo_w29) (w1 := (wr.setCell ⟨go27, (x40_2 : Int).toNat, none⟩ (.int .u8 x11_3))) ?hg ?ho ?hn ?hr ?_; (case ho => rfl); (case hg => rfl); (case hn => rfl); (case hr => first | (go_simp; done) | (go_simp; rfl)); intro w29 hw; have hg : wr.grownBy w29 (some go27) := (by rw [hw]; exact HP28.2); have hz_ : Kd.R (Kd.int .u8) 5 w29 w.heap.size oki28 (.slice (some ⟨go27, 0, none⟩) (rd_L1 x6_2 x33_1).length c141_0) y142 := (by rw [hw, Ny142.out]; exact HP28.1); have hp_ : Kd.S (Kd.slice 5 (Kd.int .u8)) 24 w29 w.heap.size (fun _ => True) (.slice (some ad134) x6_2.length co8) y144 := (by rw [Ny144.out]; exact hbk28 hg (fun k_ e_ => by injection e_ with e_; subst e_; exact ge28_0.1 _ rfl) (Kd.M_row hz_)); have hm_ := Kd.R_mono hz_ hok28; clear HP28 hbk28; have n0_ := Aside0.mk (hp_); have n1_ := Aside0.mk ((by rw [hw]; exact below_set (HB.out) GB27.out : Below w.heap.size w w29)); have n2_ := Aside0.mk (hm_); have n3_ := Aside0.mk ((Kd.R_reads' hm_).2.1); clear HO_6; clear HB; clear HL141_0; have HO_6 := n0_; have HB := n1_; have HL145 := n2_; have HC143 := n3_; clear n0_ n1_ n2_ n3_; clear hg hw hp_ hz_ hm_ hok28)))
                                        (try simp only [← hl6_2])
                                        go_roundg k3
                                        case measure => have := HK1.out; have := HK2.out; have := HK3.out; omega
                                        case rel => exact ⟨(y144), (wrap64 (x40_2 + 1)), (by first | rfl | (simp; done) | (simp [*]; done)), H', ⟨by have := HK1.out; have := HK2.out; have := HK3.out; omega⟩, ⟨by (try simp only [hl6_1]); (try simp only [hl6_2]); (with_reducible repeat (first | apply Kd.S_alloc | apply Kd.S_drewN | apply Kd.S_drew)); exact HO_6.out⟩, ⟨by repeat (first | (with_reducible first | exact HB.out | apply below_alloc | apply pw_below_drewN | apply below_drew1) | exact HB.out)⟩⟩
                                      · rw [if_neg c26] at H
                                        exact absurd H (by simp)
                                    · rw [if_neg c25] at H
                                      exact absurd H (by simp)
                                  · rw [if_neg c24] at H
                                    exact absurd H (by simp)
                                · rw [if_neg c23] at H
                                  exact absurd H (by simp)
                        · rw [if_neg c13] at H
                          exact absurd H (by simp)
                      · rw [if_neg c12] at H
                        have c12b0 : decide (x40_2 < ((rd_L1 x6_1 x33_1).length : Int)) = false := decide_eq_false c12
                        clear c12
                        have H' := Aside0.mk H
                        clear H
                        go_wp2
                        repeat (go_quiet (fail); try go_wp2)
                        (try simp only [← hl6_1, ← hl6_2])
                        go_roundg k2
                        case measure => have := HK1.out; have := HK2.out; omega
                        case rel => exact ⟨(x6_2), (wrap64 (x33_1 + 1)), (by first | rfl | (simp; done) | (simp [*]; done)), H', ⟨by have := HK1.out; have := HK2.out; omega⟩, ⟨by (try simp only [hl6_1]); (try simp only [hl6_2]); (with_reducible repeat (first | apply Kd.S_alloc | apply Kd.S_drewN | apply Kd.S_drew)); exact HO_6.out⟩, ⟨by repeat (first | (with_reducible first | exact HB.out | apply below_alloc | apply pw_below_drewN | apply below_drew1) | exact HB.out)⟩⟩
                · rw [if_neg c11] at H
                  exact absurd H (by simp)
              · rw [if_neg c10] at H
                exact absurd H (by simp)
            · rw [if_neg c9] at H
              have c9b0 : decide (x33_1 < (t130.length : Int)) = false := decide_eq_false c9
              (try (have c9r := c9b0; simp only [hl6_1] at c9r))
              clear c9
              simp only [Option.some.injEq, Prod.mk.injEq] at H
              obtain ⟨rfl, rfl⟩ := H
              go_wp2
              repeat (go_quiet (fail); try go_wp2)
              go_ret2
              exact ⟨_, by first | rfl | (simp [errW_none, errW_some] <;> rfl) | (simp [*, errW_none, errW_some] <;> rfl), by (with_reducible repeat (first | apply Kd.S_alloc | apply Kd.S_drewN | apply Kd.S_drew)); exact HO_6.out, by repeat (first | (with_reducible first | exact HB.out | apply below_alloc | apply pw_below_drewN | apply below_drew1) | exact HB.out)⟩
      · rw [if_neg c5] at H
        exact absurd H (by simp)
    · rw [if_neg c4] at H
      exact absurd H (by simp)
  · rw [if_neg c3] at H
    exact absurd H (by simp)

/-! ### reedsolomon_DoorTimes: function 35 -/
def reedsolomon_DoorTimes.f (k : Nat) (l0 : List (List Int)) (l1 : List (List Int)) : Option ((List (List Int)) × Option Int) := (reedsolomon_matrix_Multiply.f k l0 l1).bind fun bt146 => (some (bt146.1, bt146.2))
theorem reedsolomon_DoorTimes.mono : ∀ a0 a1 k, LeO (reedsolomon_DoorTimes.f k a0 a1) (reedsolomon_DoorTimes.f (k + 1) a0 a1) := by
  intro a0 a1 k
  unfold reedsolomon_DoorTimes.f
  repeat' first
      | (with_reducible exact reedsolomon_matrix_Multiply.mono _ _ _)
      | (with_reducible exact LeO.refl _)
      | (with_reducible exact LeO.none _)
      | (with_reducible refine LeO.ite ?_ ?_)
      | (with_reducible refine LeO.bind ?_ (fun _ => ?_))
      | exact reedsolomon_matrix_Multiply.mono _ _ _
      | exact LeO.none _
      | refine LeO.ite ?_ ?_
      | refine LeO.bind ?_ (fun _ => ?_)
set_option maxHeartbeats 8000000 in
set_option maxRecDepth 100000 in
theorem reedsolomon_DoorTimes.calls (k : Nat) (A0 : Option Addr) (c0 : Nat) (l0 : List (List Int)) (A1 : Option Addr) (c1 : Nat) (l1 : List (List Int)) (r1 : List (List Int)) (r2 : Option Int) (w : World) (hr0 : Kd.C (Kd.slice 5 (Kd.int .u8)) w A0 l0.length l0) (hc0 : l0.length ≤ c0) (hr1 : Kd.C (Kd.slice 5 (Kd.int .u8)) w A1 l1.length l1) (hc1 : l1.length ≤ c1) (HG_ : Glob w) (h : reedsolomon_DoorTimes.f k l0 l1 = some (r1, r2)) :
    Calls Tryd.prog 35 #[.slice A0 l0.length c0, .slice A1 l1.length c1] w fun e w' => ∃ v0_ : Value, e = .returned (.tuple #[v0_, errW r2]) ∧ Kd.S (Kd.slice 5 (Kd.int .u8)) 24 w' w.heap.size (fun _ => True) v0_ r1 ∧ Below w.heap.size w w' := by
  have HG := Aside0.mk HG_
  clear HG_
  have HR0 := Aside0.mk hr0
  have HC0 := Aside0.mk hc0
  clear hr0 hc0
  have HR1 := Aside0.mk hr1
  have HC1 := Aside0.mk hc1
  clear hr1 hc1
  have HB := Aside0.mk (Below.refl w.heap.size w)
  have H : ((reedsolomon_matrix_Multiply.f k l0 l1).bind fun bt146 => (some (bt146.1, bt146.2))) = some (r1, r2) := h
  clear h
  replace H := Option.bind_eq_some_iff.mp H
  obtain ⟨⟨t146, t147⟩, A30, H⟩ := H
  replace H : (some (t146, t147)) = some (r1, r2) := H
  have A3 := Aside0.mk A30
  clear A30
  simp only [Option.some.injEq, Prod.mk.injEq] at H
  obtain ⟨rfl, rfl⟩ := H
  go_enter Tryd.func35, Tryd.ntmps35
  go_wp2_with (first | ((with_reducible refine gate_callee (f := 47) rfl ?_); refine goesL_ (some 8) rfl rfl Tryd.func47 (by kernel_rfl) rfl #[.slice A0 l0.length c0, .slice A1 l1.length c1] rfl (by (try simp only [List.map_toArray, List.map_cons, List.map_nil]); first | done | rfl | (simp only [List.length_drop, List.length_take]; rfl)) ?_; (with_reducible refine (reedsolomon_matrix_Multiply.calls k _ _ l0 _ _ l1 t146 t147 _ ?side1 ?side2 ?side3 ?side4 ?side5 A3.out).mono ?_); (case side1 => repeat (first | exact HR0.out | (with_reducible refine Kd.C_alloc ?_ _) | (with_reducible refine Kd.C_drewN ?_ _) | (with_reducible refine Kd.C_drew ?_))); (case side2 => exact HC0.out); (case side3 => repeat (first | exact HR1.out | (with_reducible refine Kd.C_alloc ?_ _) | (with_reducible refine Kd.C_drewN ?_ _) | (with_reducible refine Kd.C_drew ?_))); (case side4 => exact HC1.out); (case side5 => first | exact HG.out | exact Glob.drewN HG.out _ | exact Glob.below HG.out (by repeat (first | (with_reducible first | exact HB.out | apply below_alloc | apply pw_below_drewN | apply below_drew1) | exact HB.out))); rintro e w4 ⟨v148, rfl, ho0, hb⟩; refine ⟨_, rfl, ?_⟩; have n0_ := Aside0.mk (Kd.S_lower ho0 (below_size (by repeat (first | (with_reducible first | exact HB.out | apply below_alloc | apply pw_below_drewN | apply below_drew1) | exact HB.out)))); have n1_ := Aside0.mk (below_step (by repeat (first | (with_reducible first | exact HB.out | apply below_alloc | apply pw_below_drewN | apply below_drew1) | exact HB.out)) hb); clear HB; have HO149 := n0_; have HB := n1_; clear n0_ n1_; (try clear hb); (try clear hb2); (try clear hk); (try clear hi); (try clear ho0); (try simp only [errW_none, errW_some])))
  go_ret2
  exact ⟨_, by first | rfl | (simp [errW_none, errW_some] <;> rfl) | (simp [*, errW_none, errW_some] <;> rfl), by (with_reducible repeat (first | apply Kd.S_alloc | apply Kd.S_drewN | apply Kd.S_drew)); exact HO149.out, by repeat (first | (with_reducible first | exact HB.out | apply below_alloc | apply pw_below_drewN | apply below_drew1) | exact HB.out)⟩

end Go.Proofs.YtpjfokolbgcbhaaDoor.Qm
