/- The reference's answer about a consistency proof, walked (printed by gen_vs.py). -/
import Derived.Test.YtfhcpniibiobgaaDoorDy
import Derived.Test.YtfhcpniibiobgaaDoorDj
namespace Go.Proofs.YtfhcpniibiobgaaDoor.Qf
open Go.RowKit Go.Proofs.YtfhcpniibiobgaaDoorW.PrintWords Go.Proofs.YtfhcpniibiobgaaDoorW.PrintLast Go.Proofs.YtfhcpniibiobgaaDoorW.PrintMore
open Hs (CB CL at_L at_B infoB infoL R_of_blk bcell)
open Go.Proofs.YtfhcpniibiobgaaDoor.Pure (hcF split_go wu rootsF rootsF_len low_lt low_dvd inn_big inn_vlen pow_add_mul vlen_pow start_plus)
open Go.Proofs.YtfhcpniibiobgaaDoor.M (inn vlen pc vlen_left vlen_right vlen_one)

theorem proof_len (x sh st : Nat) (hsd : 2 ^ sh ∣ x + 1) (hsn : ¬ 2 ^ (sh + 1) ∣ x + 1) (hst : st = if x + 1 = 2 ^ sh then 0 else 1) : ∀ (T b e k : Nat) (wh : Bool), T ≤ 64 → b ≤ x → x < e → e < 18446744073709551616 → (∃ u c, u ≤ T ∧ b = c * 2 ^ u ∧ e - b ≤ 2 ^ u) → (x + 1 = e → e - b = 2 ^ sh) → (wh = true ↔ b = 0) → T + 70 ≤ k → ∃ l, spec_proofIn.f k ((x + 1 : Nat) : Int) (b : Int) (e : Int) wh = some l ∧ l.length + sh = st + vlen (x - b) (e - b) ∧ l.length ≤ T + 1 := by
  intro T
  induction T with
  | zero =>
    intro b e k wh hT hb hx he ⟨u, c, hu, hc, hw⟩ hstop hwh hk
    obtain ⟨k, rfl⟩ : ∃ k', k = k' + 1 := ⟨k - 1, by omega⟩
    obtain rfl : u = 0 := by omega
    have e1 : e - b = 1 := by simp at hw; omega
    have hxe : x + 1 = e := by omega
    have h1 := hstop hxe
    have hs0 : sh = 0 := by
      rw [e1] at h1
      cases sh with
      | zero => rfl
      | succ s => rw [Nat.pow_succ] at h1; omega
    subst hs0
    rw [spec_proofIn.f, if_pos (by omega), e1, show x - b = 0 by omega, vlen_one]
    cases wh
    · rw [if_neg (by simp)]
      have hb0 : b ≠ 0 := fun h => by have := hwh.2 h; cases this
      rw [Nat.pow_zero, if_neg (by omega)] at hst
      exact ⟨_, rfl, by simp [hst], by simp⟩
    · rw [if_pos rfl]
      have hb0 : b = 0 := hwh.1 rfl
      rw [Nat.pow_zero, if_pos (by omega)] at hst
      exact ⟨_, rfl, by simp [hst], by simp⟩
  | succ T ih =>
    intro b e k wh hT hb hx he ⟨u, c, hu, hc, hw⟩ hstop hwh hk
    obtain ⟨k, rfl⟩ : ∃ k', k = k' + 1 := ⟨k - 1, by omega⟩
    by_cases hxe : x + 1 = e
    · have h1 := hstop hxe
      have hp := Nat.two_pow_pos sh
      have h64 : sh < 64 := (Nat.pow_lt_pow_iff_right (by omega : 1 < 2)).1 (show 2 ^ sh < 2 ^ 64 by omega)
      rw [spec_proofIn.f, if_pos (by omega), h1, show x - b = 2 ^ sh - 1 by omega, vlen_pow sh _ h64 (by omega)]
      cases wh
      · rw [if_neg (by simp)]
        have hb0 : b ≠ 0 := fun h => by have := hwh.2 h; cases this
        rw [if_neg (by omega)] at hst
        exact ⟨_, rfl, by rw [hst]; simp, by simp⟩
      · rw [if_pos rfl]
        have hb0 : b = 0 := hwh.1 rfl
        rw [if_pos (by omega)] at hst
        exact ⟨_, rfl, by rw [hst]; simp, by simp⟩
    · have n0 : e - b - 1 ≠ 0 := by omega
      obtain ⟨t, ht, g1, g2⟩ := Pure.log_at (e - b) (by omega) (by omega)
      have htu : t < u := (Nat.pow_lt_pow_iff_right (by omega : 1 < 2)).1 (Nat.lt_of_lt_of_le g1 hw)
      have hp := Nat.two_pow_pos t
      have hq : 2 ^ (t + 1) = 2 * 2 ^ t := by rw [Nat.pow_succ, Nat.mul_comm]
      have hcT : b = (c * 2 ^ (u - t)) * 2 ^ t := by rw [hc, Nat.mul_assoc, ← pow_add_mul t u (by omega)]
      have hdb : 2 ^ sh ∣ x + 1 - b := low_dvd hsd hc (Nat.le_of_lt (low_lt hsd hb (by omega) hc hw))
      have hsp : spec_split.f k ((e - b : Nat) : Int) = some ((2 ^ t : Nat) : Int) := split_go (e - b) t (by omega) g1 g2 t 0 k (by omega) (by omega)
      have w1 : IntKind.u64.wrap ((e : Int) - (b : Int)) = ((e - b : Nat) : Int) := by rw [wu _ (by omega)]; omega
      have w2 : IntKind.u64.wrap ((b : Int) + ((2 ^ t : Nat) : Int)) = ((b + 2 ^ t : Nat) : Int) := by rw [wu _ (by omega)]; omega
      rw [spec_proofIn.f, if_neg (by omega), w1, hsp, Option.bind_some, w2]
      by_cases hlt : x + 1 ≤ b + 2 ^ t
      · rw [if_pos (by omega)]
        have hstop' : x + 1 = b + 2 ^ t → b + 2 ^ t - b = 2 ^ sh := fun hm => by
          have hsht : sh ≤ t := by
            have := Nat.le_of_dvd (by omega) hdb
            exact (Nat.pow_le_pow_iff_right (by omega : 1 < 2)).1 (Nat.le_trans this (by omega))
          have hle : ¬ sh < t := fun hlt' => by
            refine hsn ?_
            have d1 : 2 ^ (sh + 1) ∣ 2 ^ t := Nat.pow_dvd_pow 2 (by omega)
            rw [hm, hcT]
            exact Nat.dvd_add (Nat.dvd_trans d1 ⟨_, Nat.mul_comm _ _⟩) d1
          have : sh = t := by omega
          subst this
          omega
        obtain ⟨l, hl, hlen, hlT⟩ := ih b (b + 2 ^ t) k wh (by omega) hb (by omega) (by omega) ⟨t, _, by omega, hcT, by omega⟩ hstop' hwh (by omega)
        rw [hl, Option.bind_some, Option.bind_some, if_pos (by simp; omega)]
        refine ⟨_, rfl, ?_, by simp; omega⟩
        have h1 : vlen (x - b) (e - b) = t + 1 := vlen_left ht (by omega) g1 g2 (by omega)
        rw [show b + 2 ^ t - b = 2 ^ t by omega, vlen_pow t (x - b) ht (by omega)] at hlen
        rw [List.length_append, h1]
        simp
        omega
      · rw [if_neg (by omega)]
        obtain ⟨l, hl, hlen, hlT⟩ := ih (b + 2 ^ t) e k false (by omega) (by omega) hx he ⟨t, c * 2 ^ (u - t) + 1, by omega, by rw [Nat.add_mul, Nat.one_mul, ← hcT], by omega⟩ (fun h => absurd h hxe) ⟨fun h => (by cases h), fun h => absurd h (by omega)⟩ (by omega)
        rw [hl, Option.bind_some, Option.bind_some, if_pos (by simp; omega)]
        refine ⟨_, rfl, ?_, by simp; omega⟩
        have h1 : vlen (x - b) (e - b) = vlen (x - b - 2 ^ t) (e - b - 2 ^ t) + 1 := vlen_right ht (by omega) (by omega) g2
        rw [show x - (b + 2 ^ t) = x - b - 2 ^ t by omega, show e - (b + 2 ^ t) = e - b - 2 ^ t by omega] at hlen
        rw [List.length_append, h1]
        simp
        omega

set_option maxHeartbeats 2000000 in
set_option maxRecDepth 100000 in
theorem rootsFrom_calls (a0 a1 a2 a3 a4 a5 : Int) (m x sh st s2 : Nat) (hm : m = x + 1) (hsd : 2 ^ sh ∣ x + 1) (hsn : ¬ 2 ^ (sh + 1) ∣ x + 1) (hst : st = if x + 1 = 2 ^ sh then 0 else 1) (A1 : Option Addr) (c1 : Nat) (A2 : Option Addr) (c2 : Nat) (pf : List (List Int)) (r : List Int) (hr : r.length ≤ 100000) (hrc : r.length ≤ c2) (w : World) (hx : x + 1 < s2) (hs2 : s2 < 18446744073709551616) (hpl : pf.length + sh = st + vlen x s2) (hp : pf.length < 100) (hpc : pf.length ≤ c1) (hps : ∀ h ∈ pf, h.length ≤ 5000) (h1 : CL w A1 pf) (h2 : CB w A2 r) :
    Calls Tryd.prog 62 #[.agg #[.int .i64 a0, .int .i64 a1, .int .i64 a2, .int .u64 a3, .int .u64 a4, .int .u64 a5], .int .u64 (m : Int), .int .u64 (s2 : Int), .slice A1 pf.length c1, .slice A2 r.length c2] w fun en w' => ∃ B1 d1 B2 d2, en = .returned (.tuple #[.slice B1 (rootsF a0 a2 a5 (x + 1) 64 0 s2 true pf r).1.length d1, .slice B2 (rootsF a0 a2 a5 (x + 1) 64 0 s2 true pf r).2.length d2]) ∧ (rootsF a0 a2 a5 (x + 1) 64 0 s2 true pf r).1.length ≤ d1 ∧ CB w' B1 (rootsF a0 a2 a5 (x + 1) 64 0 s2 true pf r).1 ∧ (rootsF a0 a2 a5 (x + 1) 64 0 s2 true pf r).2.length ≤ d2 ∧ CB w' B2 (rootsF a0 a2 a5 (x + 1) 64 0 s2 true pf r).2 ∧ Below w.heap.size w w' := by
  have RC0 : ∀ W : World, Below w.heap.size w W → Calls Tryd.prog 97 #[.agg #[.int .i64 a0, .int .i64 a1, .int .i64 a2, .int .u64 a3, .int .u64 a4, .int .u64 a5], .int .u64 (m : Int), .agg #[.int .u64 0, .int .u64 (s2 : Int)], .bool true, .slice A1 pf.length c1, .slice A2 r.length c2] W fun en w' => ∃ B1 d1 B2 d2, en = .returned (.tuple #[.slice B1 (rootsF a0 a2 a5 (x + 1) 64 0 s2 true pf r).1.length d1, .slice B2 (rootsF a0 a2 a5 (x + 1) 64 0 s2 true pf r).2.length d2]) ∧ (rootsF a0 a2 a5 (x + 1) 64 0 s2 true pf r).1.length ≤ d1 ∧ CB w' B1 (rootsF a0 a2 a5 (x + 1) 64 0 s2 true pf r).1 ∧ (rootsF a0 a2 a5 (x + 1) 64 0 s2 true pf r).2.length ≤ d2 ∧ CB w' B2 (rootsF a0 a2 a5 (x + 1) 64 0 s2 true pf r).2 ∧ Below W.heap.size W w' := by
    subst hm
    exact fun W hb => rootsIn_calls a0 a1 a2 a3 a4 a5 x sh st hsd hsn hst A1 c1 A2 c2 r hr hrc 64 0 s2 true pf W (Nat.le_refl _) (Nat.zero_le _) (by omega) hs2 ⟨64, 0, Nat.le_refl _, by omega, by omega⟩ (fun h => absurd h (by omega)) ⟨fun _ => rfl, fun _ => rfl⟩ (by rw [Nat.sub_zero, Nat.sub_zero]; exact hpl) hp hpc hps (Kd.C_below h2 hb) (Kd.C_below h1 hb)
  have RC := Aside0.mk RC0
  clear RC0 hm
  clear hsd hsn hst hr hrc hx hs2 hpl hp hpc hps h1 h2
  generalize rootsF a0 a2 a5 (x + 1) 64 0 s2 true pf r = fg at RC ⊢
  go_enter Tryd.func62, Tryd.ntmps62
  go_wp2_with (first
    | (go_at_call 97; (with_reducible refine (RC.out _ (by repeat (first | exact Below.refl _ _ | apply below_alloc | apply pw_below_drewN | apply below_drew1))).mono ?_); rintro e w1 ⟨B1, d1, B2, d2, rfl, hl1, hC1, hl2, hC2, hb⟩))
  go_ret2
  exact ⟨_, _, _, _, rfl, hl1, hC1, hl2, hC2, below_then (below_alloc (Below.refl _ _) _) (by simp) hb⟩

theorem nilC (w : World) : CB w none ([] : List Int) := ⟨rfl, by simp, fun h => by simp at h⟩
set_option maxHeartbeats 2000000 in
set_option maxRecDepth 100000 in
theorem vs_gt (a0 a1 a2 a3 a4 a5 : Int) (s1 s2 : Nat) (A1 : Option Addr) (c1 : Nat) (pf : List (List Int)) (A2 : Option Addr) (c2 : Nat) (r1 : List Int) (A3 : Option Addr) (c3 : Nat) (r2 : List Int) (w : World) (h : s2 < s1) :
    Calls Tryd.prog 24 #[.agg #[.int .i64 a0, .int .i64 a1, .int .i64 a2, .int .u64 a3, .int .u64 a4, .int .u64 a5], .int .u64 (s1 : Int), .int .u64 (s2 : Int), .slice A1 pf.length c1, .slice A2 r1.length c2, .slice A3 r2.length c3] w fun en w' => ∃ A cc, en = .returned (.tuple #[.int .i64 2, .slice A (([] : List Int)).length cc]) ∧ (([] : List Int)).length ≤ cc ∧ CB w' A (([] : List Int)) ∧ Below w.heap.size w w' := by
  have t1 : decide (s2 < s1) = true := decide_eq_true (by omega)
  have t1i : decide ((s2 : Int) < (s1 : Int)) = true := decide_eq_true (by omega)
  clear h
  go_enter Tryd.func24, Tryd.ntmps24
  go_wp2
  go_ret2
  exact ⟨_, _, rfl, Nat.zero_le _, nilC _, by repeat (first | exact Below.refl _ _ | apply below_alloc | apply pw_below_drewN | apply below_drew1)⟩

set_option maxHeartbeats 2000000 in
set_option maxRecDepth 100000 in
theorem vs_zero_n (a0 a1 a2 a3 a4 a5 : Int) (s1 s2 : Nat) (A1 : Option Addr) (c1 : Nat) (pf : List (List Int)) (A2 : Option Addr) (c2 : Nat) (r1 : List Int) (A3 : Option Addr) (c3 : Nat) (r2 : List Int) (w : World) (h : ¬ s2 < s1) (h0 : s1 = 0) (hn : 0 < pf.length) :
    Calls Tryd.prog 24 #[.agg #[.int .i64 a0, .int .i64 a1, .int .i64 a2, .int .u64 a3, .int .u64 a4, .int .u64 a5], .int .u64 (s1 : Int), .int .u64 (s2 : Int), .slice A1 pf.length c1, .slice A2 r1.length c2, .slice A3 r2.length c3] w fun en w' => ∃ A cc, en = .returned (.tuple #[.int .i64 2, .slice A (([] : List Int)).length cc]) ∧ (([] : List Int)).length ≤ cc ∧ CB w' A (([] : List Int)) ∧ Below w.heap.size w w' := by
  have t1 : decide (s2 < s1) = false := decide_eq_false (by omega)
  have t1i : decide ((s2 : Int) < (s1 : Int)) = false := decide_eq_false (by omega)
  have t2 : (s1 == 0) = true := beq_iff_eq.2 (by omega)
  have t2i : ((s1 : Int) == 0) = true := beq_iff_eq.2 (by omega)
  have t4 : decide (0 < pf.length) = true := decide_eq_true (by omega)
  have t4i : decide ((0 : Int) < (pf.length : Int)) = true := decide_eq_true (by omega)
  clear h h0 hn
  go_enter Tryd.func24, Tryd.ntmps24
  go_wp2
  go_ret2
  exact ⟨_, _, rfl, Nat.zero_le _, nilC _, by repeat (first | exact Below.refl _ _ | apply below_alloc | apply pw_below_drewN | apply below_drew1)⟩

set_option maxHeartbeats 2000000 in
set_option maxRecDepth 100000 in
theorem vs_eq_n (a0 a1 a2 a3 a4 a5 : Int) (s1 s2 : Nat) (A1 : Option Addr) (c1 : Nat) (pf : List (List Int)) (A2 : Option Addr) (c2 : Nat) (r1 : List Int) (A3 : Option Addr) (c3 : Nat) (r2 : List Int) (w : World) (h : s1 = s2) (h0 : s1 ≠ 0) (hn : 0 < pf.length) :
    Calls Tryd.prog 24 #[.agg #[.int .i64 a0, .int .i64 a1, .int .i64 a2, .int .u64 a3, .int .u64 a4, .int .u64 a5], .int .u64 (s1 : Int), .int .u64 (s2 : Int), .slice A1 pf.length c1, .slice A2 r1.length c2, .slice A3 r2.length c3] w fun en w' => ∃ A cc, en = .returned (.tuple #[.int .i64 2, .slice A (([] : List Int)).length cc]) ∧ (([] : List Int)).length ≤ cc ∧ CB w' A (([] : List Int)) ∧ Below w.heap.size w w' := by
  have t1 : decide (s2 < s1) = false := decide_eq_false (by omega)
  have t1i : decide ((s2 : Int) < (s1 : Int)) = false := decide_eq_false (by omega)
  have t2 : (s1 == 0) = false := beq_eq_false_iff_ne.2 (by omega)
  have t2i : ((s1 : Int) == 0) = false := beq_eq_false_iff_ne.2 (by omega)
  have t3 : (s1 == s2) = true := beq_iff_eq.2 (by omega)
  have t3i : ((s1 : Int) == (s2 : Int)) = true := beq_iff_eq.2 (by omega)
  have t4 : decide (0 < pf.length) = true := decide_eq_true (by omega)
  have t4i : decide ((0 : Int) < (pf.length : Int)) = true := decide_eq_true (by omega)
  clear h h0 hn
  go_enter Tryd.func24, Tryd.ntmps24
  go_wp2
  go_ret2
  exact ⟨_, _, rfl, Nat.zero_le _, nilC _, by repeat (first | exact Below.refl _ _ | apply below_alloc | apply pw_below_drewN | apply below_drew1)⟩

set_option maxHeartbeats 2000000 in
set_option maxRecDepth 100000 in
theorem vs_same_z (a0 a1 a2 a3 a4 a5 : Int) (s1 s2 : Nat) (A1 : Option Addr) (c1 : Nat) (pf : List (List Int)) (A2 : Option Addr) (c2 : Nat) (r1 : List Int) (A3 : Option Addr) (c3 : Nat) (r2 : List Int) (w : World) (h : s1 = s2) (h0 : s1 = 0) (hn : ¬ 0 < pf.length) (h2 : CB w A2 r1) (hc2 : r1.length ≤ c2) (h3 : CB w A3 r2) (hc3 : r2.length ≤ c3) (hs : sameB r1 r2 = true) :
    Calls Tryd.prog 24 #[.agg #[.int .i64 a0, .int .i64 a1, .int .i64 a2, .int .u64 a3, .int .u64 a4, .int .u64 a5], .int .u64 (s1 : Int), .int .u64 (s2 : Int), .slice A1 pf.length c1, .slice A2 r1.length c2, .slice A3 r2.length c3] w fun en w' => ∃ A cc, en = .returned (.tuple #[.int .i64 0, .slice A (([] : List Int)).length cc]) ∧ (([] : List Int)).length ≤ cc ∧ CB w' A (([] : List Int)) ∧ Below w.heap.size w w' := by
  have t1 : decide (s2 < s1) = false := decide_eq_false (by omega)
  have t1i : decide ((s2 : Int) < (s1 : Int)) = false := decide_eq_false (by omega)
  have t2 : (s1 == 0) = true := beq_iff_eq.2 (by omega)
  have t2i : ((s1 : Int) == 0) = true := beq_iff_eq.2 (by omega)
  have t3 : (s1 == s2) = true := beq_iff_eq.2 (by omega)
  have t3i : ((s1 : Int) == (s2 : Int)) = true := beq_iff_eq.2 (by omega)
  have t4 : decide (0 < pf.length) = false := decide_eq_false (by omega)
  have t4i : decide ((0 : Int) < (pf.length : Int)) = false := decide_eq_false (by omega)
  have H2 := Aside0.mk h2
  have H3 := Aside0.mk h3
  have HS := Aside0.mk (show spec_SameText.f r1 r2 = some _ from congrArg some hs)
  clear h h0 hn h2 h3 hs
  go_enter Tryd.func24, Tryd.ntmps24
  go_wp2_with (go_at_call 17; (with_reducible refine (spec_SameText.calls _ _ r1 _ _ r2 _ _ (Kd.C_below H2.out (by repeat (first | exact Below.refl _ _ | apply below_alloc | apply pw_below_drewN | apply below_drew1))) hc2 (Kd.C_below H3.out (by repeat (first | exact Below.refl _ _ | apply below_alloc | apply pw_below_drewN | apply below_drew1))) hc3 HS.out).mono ?_); rintro e w3 ⟨rfl, hd⟩; have HB3 := Aside0.mk (below_then (below_alloc (Below.refl _ _) _) (by simp) hd.below); clear hd)
  go_ret2
  exact ⟨_, _, rfl, Nat.zero_le _, nilC _, HB3.out⟩

set_option maxHeartbeats 2000000 in
set_option maxRecDepth 100000 in
theorem vs_diff_z (a0 a1 a2 a3 a4 a5 : Int) (s1 s2 : Nat) (A1 : Option Addr) (c1 : Nat) (pf : List (List Int)) (A2 : Option Addr) (c2 : Nat) (r1 : List Int) (A3 : Option Addr) (c3 : Nat) (r2 : List Int) (w : World) (h : s1 = s2) (h0 : s1 = 0) (hn : ¬ 0 < pf.length) (h2 : CB w A2 r1) (hc2 : r1.length ≤ c2) (h3 : CB w A3 r2) (hc3 : r2.length ≤ c3) (hs : sameB r1 r2 = false) :
    Calls Tryd.prog 24 #[.agg #[.int .i64 a0, .int .i64 a1, .int .i64 a2, .int .u64 a3, .int .u64 a4, .int .u64 a5], .int .u64 (s1 : Int), .int .u64 (s2 : Int), .slice A1 pf.length c1, .slice A2 r1.length c2, .slice A3 r2.length c3] w fun en w' => ∃ A cc, en = .returned (.tuple #[.int .i64 1, .slice A (r1).length cc]) ∧ (r1).length ≤ cc ∧ CB w' A (r1) ∧ Below w.heap.size w w' := by
  have t1 : decide (s2 < s1) = false := decide_eq_false (by omega)
  have t1i : decide ((s2 : Int) < (s1 : Int)) = false := decide_eq_false (by omega)
  have t2 : (s1 == 0) = true := beq_iff_eq.2 (by omega)
  have t2i : ((s1 : Int) == 0) = true := beq_iff_eq.2 (by omega)
  have t3 : (s1 == s2) = true := beq_iff_eq.2 (by omega)
  have t3i : ((s1 : Int) == (s2 : Int)) = true := beq_iff_eq.2 (by omega)
  have t4 : decide (0 < pf.length) = false := decide_eq_false (by omega)
  have t4i : decide ((0 : Int) < (pf.length : Int)) = false := decide_eq_false (by omega)
  have H2 := Aside0.mk h2
  have H3 := Aside0.mk h3
  have HS := Aside0.mk (show spec_SameText.f r1 r2 = some _ from congrArg some hs)
  clear h h0 hn h2 h3 hs
  go_enter Tryd.func24, Tryd.ntmps24
  go_wp2_with (go_at_call 17; (with_reducible refine (spec_SameText.calls _ _ r1 _ _ r2 _ _ (Kd.C_below H2.out (by repeat (first | exact Below.refl _ _ | apply below_alloc | apply pw_below_drewN | apply below_drew1))) hc2 (Kd.C_below H3.out (by repeat (first | exact Below.refl _ _ | apply below_alloc | apply pw_below_drewN | apply below_drew1))) hc3 HS.out).mono ?_); rintro e w3 ⟨rfl, hd⟩; have HB3 := Aside0.mk (below_then (below_alloc (Below.refl _ _) _) (by simp) hd.below); clear hd)
  go_ret2
  exact ⟨_, _, rfl, hc2, Kd.C_below H2.out HB3.out, HB3.out⟩

set_option maxHeartbeats 2000000 in
set_option maxRecDepth 100000 in
theorem vs_same_p (a0 a1 a2 a3 a4 a5 : Int) (s1 s2 : Nat) (A1 : Option Addr) (c1 : Nat) (pf : List (List Int)) (A2 : Option Addr) (c2 : Nat) (r1 : List Int) (A3 : Option Addr) (c3 : Nat) (r2 : List Int) (w : World) (h : s1 = s2) (h0 : s1 ≠ 0) (hn : ¬ 0 < pf.length) (h2 : CB w A2 r1) (hc2 : r1.length ≤ c2) (h3 : CB w A3 r2) (hc3 : r2.length ≤ c3) (hs : sameB r1 r2 = true) :
    Calls Tryd.prog 24 #[.agg #[.int .i64 a0, .int .i64 a1, .int .i64 a2, .int .u64 a3, .int .u64 a4, .int .u64 a5], .int .u64 (s1 : Int), .int .u64 (s2 : Int), .slice A1 pf.length c1, .slice A2 r1.length c2, .slice A3 r2.length c3] w fun en w' => ∃ A cc, en = .returned (.tuple #[.int .i64 0, .slice A (([] : List Int)).length cc]) ∧ (([] : List Int)).length ≤ cc ∧ CB w' A (([] : List Int)) ∧ Below w.heap.size w w' := by
  have t1 : decide (s2 < s1) = false := decide_eq_false (by omega)
  have t1i : decide ((s2 : Int) < (s1 : Int)) = false := decide_eq_false (by omega)
  have t2 : (s1 == 0) = false := beq_eq_false_iff_ne.2 (by omega)
  have t2i : ((s1 : Int) == 0) = false := beq_eq_false_iff_ne.2 (by omega)
  have t3 : (s1 == s2) = true := beq_iff_eq.2 (by omega)
  have t3i : ((s1 : Int) == (s2 : Int)) = true := beq_iff_eq.2 (by omega)
  have t4 : decide (0 < pf.length) = false := decide_eq_false (by omega)
  have t4i : decide ((0 : Int) < (pf.length : Int)) = false := decide_eq_false (by omega)
  have H2 := Aside0.mk h2
  have H3 := Aside0.mk h3
  have HS := Aside0.mk (show spec_SameText.f r1 r2 = some _ from congrArg some hs)
  clear h h0 hn h2 h3 hs
  go_enter Tryd.func24, Tryd.ntmps24
  go_wp2_with (go_at_call 17; (with_reducible refine (spec_SameText.calls _ _ r1 _ _ r2 _ _ (Kd.C_below H2.out (by repeat (first | exact Below.refl _ _ | apply below_alloc | apply pw_below_drewN | apply below_drew1))) hc2 (Kd.C_below H3.out (by repeat (first | exact Below.refl _ _ | apply below_alloc | apply pw_below_drewN | apply below_drew1))) hc3 HS.out).mono ?_); rintro e w3 ⟨rfl, hd⟩; have HB3 := Aside0.mk (below_then (below_alloc (Below.refl _ _) _) (by simp) hd.below); clear hd)
  go_ret2
  exact ⟨_, _, rfl, Nat.zero_le _, nilC _, HB3.out⟩

set_option maxHeartbeats 2000000 in
set_option maxRecDepth 100000 in
theorem vs_diff_p (a0 a1 a2 a3 a4 a5 : Int) (s1 s2 : Nat) (A1 : Option Addr) (c1 : Nat) (pf : List (List Int)) (A2 : Option Addr) (c2 : Nat) (r1 : List Int) (A3 : Option Addr) (c3 : Nat) (r2 : List Int) (w : World) (h : s1 = s2) (h0 : s1 ≠ 0) (hn : ¬ 0 < pf.length) (h2 : CB w A2 r1) (hc2 : r1.length ≤ c2) (h3 : CB w A3 r2) (hc3 : r2.length ≤ c3) (hs : sameB r1 r2 = false) :
    Calls Tryd.prog 24 #[.agg #[.int .i64 a0, .int .i64 a1, .int .i64 a2, .int .u64 a3, .int .u64 a4, .int .u64 a5], .int .u64 (s1 : Int), .int .u64 (s2 : Int), .slice A1 pf.length c1, .slice A2 r1.length c2, .slice A3 r2.length c3] w fun en w' => ∃ A cc, en = .returned (.tuple #[.int .i64 1, .slice A (r1).length cc]) ∧ (r1).length ≤ cc ∧ CB w' A (r1) ∧ Below w.heap.size w w' := by
  have t1 : decide (s2 < s1) = false := decide_eq_false (by omega)
  have t1i : decide ((s2 : Int) < (s1 : Int)) = false := decide_eq_false (by omega)
  have t2 : (s1 == 0) = false := beq_eq_false_iff_ne.2 (by omega)
  have t2i : ((s1 : Int) == 0) = false := beq_eq_false_iff_ne.2 (by omega)
  have t3 : (s1 == s2) = true := beq_iff_eq.2 (by omega)
  have t3i : ((s1 : Int) == (s2 : Int)) = true := beq_iff_eq.2 (by omega)
  have t4 : decide (0 < pf.length) = false := decide_eq_false (by omega)
  have t4i : decide ((0 : Int) < (pf.length : Int)) = false := decide_eq_false (by omega)
  have H2 := Aside0.mk h2
  have H3 := Aside0.mk h3
  have HS := Aside0.mk (show spec_SameText.f r1 r2 = some _ from congrArg some hs)
  clear h h0 hn h2 h3 hs
  go_enter Tryd.func24, Tryd.ntmps24
  go_wp2_with (go_at_call 17; (with_reducible refine (spec_SameText.calls _ _ r1 _ _ r2 _ _ (Kd.C_below H2.out (by repeat (first | exact Below.refl _ _ | apply below_alloc | apply pw_below_drewN | apply below_drew1))) hc2 (Kd.C_below H3.out (by repeat (first | exact Below.refl _ _ | apply below_alloc | apply pw_below_drewN | apply below_drew1))) hc3 HS.out).mono ?_); rintro e w3 ⟨rfl, hd⟩; have HB3 := Aside0.mk (below_then (below_alloc (Below.refl _ _) _) (by simp) hd.below); clear hd)
  go_ret2
  exact ⟨_, _, rfl, hc2, Kd.C_below H2.out HB3.out, HB3.out⟩

set_option maxHeartbeats 2000000 in
set_option maxRecDepth 100000 in
theorem vs_zero (a0 a1 a2 a3 a4 a5 : Int) (s1 s2 : Nat) (A1 : Option Addr) (c1 : Nat) (pf : List (List Int)) (A2 : Option Addr) (c2 : Nat) (r1 : List Int) (A3 : Option Addr) (c3 : Nat) (r2 : List Int) (w : World) (h : s1 < s2) (h0 : s1 = 0) (hn : ¬ 0 < pf.length) :
    Calls Tryd.prog 24 #[.agg #[.int .i64 a0, .int .i64 a1, .int .i64 a2, .int .u64 a3, .int .u64 a4, .int .u64 a5], .int .u64 (s1 : Int), .int .u64 (s2 : Int), .slice A1 pf.length c1, .slice A2 r1.length c2, .slice A3 r2.length c3] w fun en w' => ∃ A cc, en = .returned (.tuple #[.int .i64 0, .slice A (([] : List Int)).length cc]) ∧ (([] : List Int)).length ≤ cc ∧ CB w' A (([] : List Int)) ∧ Below w.heap.size w w' := by
  have t1 : decide (s2 < s1) = false := decide_eq_false (by omega)
  have t1i : decide ((s2 : Int) < (s1 : Int)) = false := decide_eq_false (by omega)
  have t2 : (s1 == 0) = true := beq_iff_eq.2 (by omega)
  have t2i : ((s1 : Int) == 0) = true := beq_iff_eq.2 (by omega)
  have t3 : (s1 == s2) = false := beq_eq_false_iff_ne.2 (by omega)
  have t3i : ((s1 : Int) == (s2 : Int)) = false := beq_eq_false_iff_ne.2 (by omega)
  have t4 : decide (0 < pf.length) = false := decide_eq_false (by omega)
  have t4i : decide ((0 : Int) < (pf.length : Int)) = false := decide_eq_false (by omega)
  clear h h0 hn
  go_enter Tryd.func24, Tryd.ntmps24
  go_wp2
  go_ret2
  exact ⟨_, _, rfl, Nat.zero_le _, nilC _, by repeat (first | exact Below.refl _ _ | apply below_alloc | apply pw_below_drewN | apply below_drew1)⟩

set_option maxHeartbeats 2000000 in
set_option maxRecDepth 100000 in
theorem vs_len (a0 a1 a2 a3 a4 a5 : Int) (s1 s2 : Nat) (A1 : Option Addr) (c1 : Nat) (pf : List (List Int)) (A2 : Option Addr) (c2 : Nat) (r1 : List Int) (A3 : Option Addr) (c3 : Nat) (r2 : List Int) (w : World) (h : s1 < s2) (h0 : s1 ≠ 0) (pp : List S55) (hpf : spec_ProofParts.f 134 (s1 : Int) (s2 : Int) = some pp) (hn : pf.length ≠ pp.length) :
    Calls Tryd.prog 24 #[.agg #[.int .i64 a0, .int .i64 a1, .int .i64 a2, .int .u64 a3, .int .u64 a4, .int .u64 a5], .int .u64 (s1 : Int), .int .u64 (s2 : Int), .slice A1 pf.length c1, .slice A2 r1.length c2, .slice A3 r2.length c3] w fun en w' => ∃ A cc, en = .returned (.tuple #[.int .i64 2, .slice A (([] : List Int)).length cc]) ∧ (([] : List Int)).length ≤ cc ∧ CB w' A (([] : List Int)) ∧ Below w.heap.size w w' := by
  have t1 : decide (s2 < s1) = false := decide_eq_false (by omega)
  have t1i : decide ((s2 : Int) < (s1 : Int)) = false := decide_eq_false (by omega)
  have t2 : (s1 == 0) = false := beq_eq_false_iff_ne.2 (by omega)
  have t2i : ((s1 : Int) == 0) = false := beq_eq_false_iff_ne.2 (by omega)
  have t3 : (s1 == s2) = false := beq_eq_false_iff_ne.2 (by omega)
  have t3i : ((s1 : Int) == (s2 : Int)) = false := beq_eq_false_iff_ne.2 (by omega)
  have t5i : ((pf.length : Int) != (pp.length : Int)) = true := bne_iff_ne.2 (by omega)
  have HPF := Aside0.mk hpf
  clear h h0 hn hpf
  go_enter Tryd.func24, Tryd.ntmps24
  go_wp2_with (first
    | (go_at_call 61; (with_reducible refine (spec_ProofParts.calls 134 _ _ pp _ HPF.out).mono ?_); rintro e w1 ⟨v, rfl, hR, hb⟩; obtain ⟨A, c, rfl, hle, _⟩ := Kd.R_reads hR; obtain ⟨hc, hf⟩ := bcell hb; have hz : w.heap.size < w1.heap.size := (by have := hb.size; simp at this; omega); have HB := Aside0.mk (below_then (below_alloc (Below.refl _ _) _) (by simp) hb); clear hR hb))
  go_ret2
  exact ⟨_, _, rfl, Nat.zero_le _, nilC _, HB.out⟩

set_option maxHeartbeats 2000000 in
set_option maxRecDepth 100000 in
theorem vs_no1 (a0 a1 a2 a3 a4 a5 : Int) (s1 s2 : Nat) (A1 : Option Addr) (c1 : Nat) (pf : List (List Int)) (A2 : Option Addr) (c2 : Nat) (r1 : List Int) (A3 : Option Addr) (c3 : Nat) (r2 : List Int) (w : World) (h : s1 < s2) (h0 : s1 ≠ 0) (pp : List S55) (hpf : spec_ProofParts.f 134 (s1 : Int) (s2 : Int) = some pp) (hn : pf.length = pp.length) (h2 : CB w A2 r1) (hc2 : r1.length ≤ c2) (h3 : CB w A3 r2) (hc3 : r2.length ≤ c3) (f g : List Int) (hrf : ∀ W : World, Below w.heap.size w W → Calls Tryd.prog 62 #[.agg #[.int .i64 a0, .int .i64 a1, .int .i64 a2, .int .u64 a3, .int .u64 a4, .int .u64 a5], .int .u64 (s1 : Int), .int .u64 (s2 : Int), .slice A1 pf.length c1, .slice A2 r1.length c2] W fun en w' => ∃ B1 d1 B2 d2, en = .returned (.tuple #[.slice B1 f.length d1, .slice B2 g.length d2]) ∧ f.length ≤ d1 ∧ CB w' B1 f ∧ g.length ≤ d2 ∧ CB w' B2 g ∧ Below W.heap.size W w') (hs1 : sameB f r1 = false) :
    Calls Tryd.prog 24 #[.agg #[.int .i64 a0, .int .i64 a1, .int .i64 a2, .int .u64 a3, .int .u64 a4, .int .u64 a5], .int .u64 (s1 : Int), .int .u64 (s2 : Int), .slice A1 pf.length c1, .slice A2 r1.length c2, .slice A3 r2.length c3] w fun en w' => ∃ A cc, en = .returned (.tuple #[.int .i64 1, .slice A (f).length cc]) ∧ (f).length ≤ cc ∧ CB w' A (f) ∧ Below w.heap.size w w' := by
  have t1 : decide (s2 < s1) = false := decide_eq_false (by omega)
  have t1i : decide ((s2 : Int) < (s1 : Int)) = false := decide_eq_false (by omega)
  have t2 : (s1 == 0) = false := beq_eq_false_iff_ne.2 (by omega)
  have t2i : ((s1 : Int) == 0) = false := beq_eq_false_iff_ne.2 (by omega)
  have t3 : (s1 == s2) = false := beq_eq_false_iff_ne.2 (by omega)
  have t3i : ((s1 : Int) == (s2 : Int)) = false := beq_eq_false_iff_ne.2 (by omega)
  have t5i : ((pf.length : Int) != (pp.length : Int)) = false := bne_eq_false_iff_eq.2 (by omega)
  have HPF := Aside0.mk hpf
  have RFH := Aside0.mk hrf
  have H2 := Aside0.mk h2
  have H3 := Aside0.mk h3
  have H2C := Aside0.mk hc2
  have H3C := Aside0.mk hc3
  have HS1 := Aside0.mk (show spec_SameText.f f r1 = some _ from congrArg some hs1)
  clear h h0 hn hpf hrf h2 h3 hc2 hc3 hs1
  go_enter Tryd.func24, Tryd.ntmps24
  go_wp2_with (first
    | (go_at_call 61; (with_reducible refine (spec_ProofParts.calls 134 _ _ pp _ HPF.out).mono ?_); rintro e w1 ⟨v, rfl, hR, hb⟩; obtain ⟨A, c, rfl, hle, _⟩ := Kd.R_reads hR; obtain ⟨hc, hf⟩ := bcell hb; have hz : w.heap.size < w1.heap.size := (by have := hb.size; simp at this; omega); have HB := Aside0.mk (below_then (below_alloc (Below.refl _ _) _) (by simp) hb); clear hR hb)
    | (go_at_call 62; (with_reducible refine (RFH.out _ (by first | exact HB.out | exact pw_below_drewN HB.out _)).mono ?_); rintro e w2 ⟨B1, d1, B2, d2, rfl, hle1, hC1, hle2, hC2, hb⟩; have HB := Aside0.mk (below_then HB.out HB.out.size hb); have HC1 := Aside0.mk hC1; have HC2 := Aside0.mk hC2; have HLE1 := Aside0.mk hle1; have HLE2 := Aside0.mk hle2; clear hb hC1 hC2 hle1 hle2)
    | (go_at_call 17; (with_reducible refine (spec_SameText.calls _ _ f _ _ r1 _ _ HC1.out HLE1.out (Kd.C_below H2.out HB.out) H2C.out HS1.out).mono ?_); rintro e w3 ⟨rfl, hd⟩; have HB := Aside0.mk (below_then HB.out HB.out.size hd.below); have HC1 := Aside0.mk (Kd.C_below HC1.out hd.below); have HC2 := Aside0.mk (Kd.C_below HC2.out hd.below); clear hd))
  go_ret2
  exact ⟨_, _, rfl, HLE1.out, HC1.out, HB.out⟩

set_option maxHeartbeats 2000000 in
set_option maxRecDepth 100000 in
theorem vs_no2 (a0 a1 a2 a3 a4 a5 : Int) (s1 s2 : Nat) (A1 : Option Addr) (c1 : Nat) (pf : List (List Int)) (A2 : Option Addr) (c2 : Nat) (r1 : List Int) (A3 : Option Addr) (c3 : Nat) (r2 : List Int) (w : World) (h : s1 < s2) (h0 : s1 ≠ 0) (pp : List S55) (hpf : spec_ProofParts.f 134 (s1 : Int) (s2 : Int) = some pp) (hn : pf.length = pp.length) (h2 : CB w A2 r1) (hc2 : r1.length ≤ c2) (h3 : CB w A3 r2) (hc3 : r2.length ≤ c3) (f g : List Int) (hrf : ∀ W : World, Below w.heap.size w W → Calls Tryd.prog 62 #[.agg #[.int .i64 a0, .int .i64 a1, .int .i64 a2, .int .u64 a3, .int .u64 a4, .int .u64 a5], .int .u64 (s1 : Int), .int .u64 (s2 : Int), .slice A1 pf.length c1, .slice A2 r1.length c2] W fun en w' => ∃ B1 d1 B2 d2, en = .returned (.tuple #[.slice B1 f.length d1, .slice B2 g.length d2]) ∧ f.length ≤ d1 ∧ CB w' B1 f ∧ g.length ≤ d2 ∧ CB w' B2 g ∧ Below W.heap.size W w') (hs1 : sameB f r1 = true) (hs2 : sameB g r2 = false) :
    Calls Tryd.prog 24 #[.agg #[.int .i64 a0, .int .i64 a1, .int .i64 a2, .int .u64 a3, .int .u64 a4, .int .u64 a5], .int .u64 (s1 : Int), .int .u64 (s2 : Int), .slice A1 pf.length c1, .slice A2 r1.length c2, .slice A3 r2.length c3] w fun en w' => ∃ A cc, en = .returned (.tuple #[.int .i64 1, .slice A (g).length cc]) ∧ (g).length ≤ cc ∧ CB w' A (g) ∧ Below w.heap.size w w' := by
  have t1 : decide (s2 < s1) = false := decide_eq_false (by omega)
  have t1i : decide ((s2 : Int) < (s1 : Int)) = false := decide_eq_false (by omega)
  have t2 : (s1 == 0) = false := beq_eq_false_iff_ne.2 (by omega)
  have t2i : ((s1 : Int) == 0) = false := beq_eq_false_iff_ne.2 (by omega)
  have t3 : (s1 == s2) = false := beq_eq_false_iff_ne.2 (by omega)
  have t3i : ((s1 : Int) == (s2 : Int)) = false := beq_eq_false_iff_ne.2 (by omega)
  have t5i : ((pf.length : Int) != (pp.length : Int)) = false := bne_eq_false_iff_eq.2 (by omega)
  have HPF := Aside0.mk hpf
  have RFH := Aside0.mk hrf
  have H2 := Aside0.mk h2
  have H3 := Aside0.mk h3
  have H2C := Aside0.mk hc2
  have H3C := Aside0.mk hc3
  have HS1 := Aside0.mk (show spec_SameText.f f r1 = some _ from congrArg some hs1)
  have HS2 := Aside0.mk (show spec_SameText.f g r2 = some _ from congrArg some hs2)
  clear h h0 hn hpf hrf h2 h3 hc2 hc3 hs1 hs2
  go_enter Tryd.func24, Tryd.ntmps24
  go_wp2_with (first
    | (go_at_call 61; (with_reducible refine (spec_ProofParts.calls 134 _ _ pp _ HPF.out).mono ?_); rintro e w1 ⟨v, rfl, hR, hb⟩; obtain ⟨A, c, rfl, hle, _⟩ := Kd.R_reads hR; obtain ⟨hc, hf⟩ := bcell hb; have hz : w.heap.size < w1.heap.size := (by have := hb.size; simp at this; omega); have HB := Aside0.mk (below_then (below_alloc (Below.refl _ _) _) (by simp) hb); clear hR hb)
    | (go_at_call 62; (with_reducible refine (RFH.out _ (by first | exact HB.out | exact pw_below_drewN HB.out _)).mono ?_); rintro e w2 ⟨B1, d1, B2, d2, rfl, hle1, hC1, hle2, hC2, hb⟩; have HB := Aside0.mk (below_then HB.out HB.out.size hb); have HC1 := Aside0.mk hC1; have HC2 := Aside0.mk hC2; have HLE1 := Aside0.mk hle1; have HLE2 := Aside0.mk hle2; clear hb hC1 hC2 hle1 hle2)
    | (go_at_call 17; (with_reducible refine (spec_SameText.calls _ _ f _ _ r1 _ _ HC1.out HLE1.out (Kd.C_below H2.out HB.out) H2C.out HS1.out).mono ?_); rintro e w3 ⟨rfl, hd⟩; have HB := Aside0.mk (below_then HB.out HB.out.size hd.below); have HC1 := Aside0.mk (Kd.C_below HC1.out hd.below); have HC2 := Aside0.mk (Kd.C_below HC2.out hd.below); clear hd)
    | (go_at_call 17; (with_reducible refine (spec_SameText.calls _ _ g _ _ r2 _ _ HC2.out HLE2.out (Kd.C_below H3.out HB.out) H3C.out HS2.out).mono ?_); rintro e w4 ⟨rfl, hd⟩; have HB := Aside0.mk (below_then HB.out HB.out.size hd.below); have HC2 := Aside0.mk (Kd.C_below HC2.out hd.below); clear hd))
  go_ret2
  exact ⟨_, _, rfl, HLE2.out, HC2.out, HB.out⟩

set_option maxHeartbeats 2000000 in
set_option maxRecDepth 100000 in
theorem vs_yes (a0 a1 a2 a3 a4 a5 : Int) (s1 s2 : Nat) (A1 : Option Addr) (c1 : Nat) (pf : List (List Int)) (A2 : Option Addr) (c2 : Nat) (r1 : List Int) (A3 : Option Addr) (c3 : Nat) (r2 : List Int) (w : World) (h : s1 < s2) (h0 : s1 ≠ 0) (pp : List S55) (hpf : spec_ProofParts.f 134 (s1 : Int) (s2 : Int) = some pp) (hn : pf.length = pp.length) (h2 : CB w A2 r1) (hc2 : r1.length ≤ c2) (h3 : CB w A3 r2) (hc3 : r2.length ≤ c3) (f g : List Int) (hrf : ∀ W : World, Below w.heap.size w W → Calls Tryd.prog 62 #[.agg #[.int .i64 a0, .int .i64 a1, .int .i64 a2, .int .u64 a3, .int .u64 a4, .int .u64 a5], .int .u64 (s1 : Int), .int .u64 (s2 : Int), .slice A1 pf.length c1, .slice A2 r1.length c2] W fun en w' => ∃ B1 d1 B2 d2, en = .returned (.tuple #[.slice B1 f.length d1, .slice B2 g.length d2]) ∧ f.length ≤ d1 ∧ CB w' B1 f ∧ g.length ≤ d2 ∧ CB w' B2 g ∧ Below W.heap.size W w') (hs1 : sameB f r1 = true) (hs2 : sameB g r2 = true) :
    Calls Tryd.prog 24 #[.agg #[.int .i64 a0, .int .i64 a1, .int .i64 a2, .int .u64 a3, .int .u64 a4, .int .u64 a5], .int .u64 (s1 : Int), .int .u64 (s2 : Int), .slice A1 pf.length c1, .slice A2 r1.length c2, .slice A3 r2.length c3] w fun en w' => ∃ A cc, en = .returned (.tuple #[.int .i64 0, .slice A (([] : List Int)).length cc]) ∧ (([] : List Int)).length ≤ cc ∧ CB w' A (([] : List Int)) ∧ Below w.heap.size w w' := by
  have t1 : decide (s2 < s1) = false := decide_eq_false (by omega)
  have t1i : decide ((s2 : Int) < (s1 : Int)) = false := decide_eq_false (by omega)
  have t2 : (s1 == 0) = false := beq_eq_false_iff_ne.2 (by omega)
  have t2i : ((s1 : Int) == 0) = false := beq_eq_false_iff_ne.2 (by omega)
  have t3 : (s1 == s2) = false := beq_eq_false_iff_ne.2 (by omega)
  have t3i : ((s1 : Int) == (s2 : Int)) = false := beq_eq_false_iff_ne.2 (by omega)
  have t5i : ((pf.length : Int) != (pp.length : Int)) = false := bne_eq_false_iff_eq.2 (by omega)
  have HPF := Aside0.mk hpf
  have RFH := Aside0.mk hrf
  have H2 := Aside0.mk h2
  have H3 := Aside0.mk h3
  have H2C := Aside0.mk hc2
  have H3C := Aside0.mk hc3
  have HS1 := Aside0.mk (show spec_SameText.f f r1 = some _ from congrArg some hs1)
  have HS2 := Aside0.mk (show spec_SameText.f g r2 = some _ from congrArg some hs2)
  clear h h0 hn hpf hrf h2 h3 hc2 hc3 hs1 hs2
  go_enter Tryd.func24, Tryd.ntmps24
  go_wp2_with (first
    | (go_at_call 61; (with_reducible refine (spec_ProofParts.calls 134 _ _ pp _ HPF.out).mono ?_); rintro e w1 ⟨v, rfl, hR, hb⟩; obtain ⟨A, c, rfl, hle, _⟩ := Kd.R_reads hR; obtain ⟨hc, hf⟩ := bcell hb; have hz : w.heap.size < w1.heap.size := (by have := hb.size; simp at this; omega); have HB := Aside0.mk (below_then (below_alloc (Below.refl _ _) _) (by simp) hb); clear hR hb)
    | (go_at_call 62; (with_reducible refine (RFH.out _ (by first | exact HB.out | exact pw_below_drewN HB.out _)).mono ?_); rintro e w2 ⟨B1, d1, B2, d2, rfl, hle1, hC1, hle2, hC2, hb⟩; have HB := Aside0.mk (below_then HB.out HB.out.size hb); have HC1 := Aside0.mk hC1; have HC2 := Aside0.mk hC2; have HLE1 := Aside0.mk hle1; have HLE2 := Aside0.mk hle2; clear hb hC1 hC2 hle1 hle2)
    | (go_at_call 17; (with_reducible refine (spec_SameText.calls _ _ f _ _ r1 _ _ HC1.out HLE1.out (Kd.C_below H2.out HB.out) H2C.out HS1.out).mono ?_); rintro e w3 ⟨rfl, hd⟩; have HB := Aside0.mk (below_then HB.out HB.out.size hd.below); have HC1 := Aside0.mk (Kd.C_below HC1.out hd.below); have HC2 := Aside0.mk (Kd.C_below HC2.out hd.below); clear hd)
    | (go_at_call 17; (with_reducible refine (spec_SameText.calls _ _ g _ _ r2 _ _ HC2.out HLE2.out (Kd.C_below H3.out HB.out) H3C.out HS2.out).mono ?_); rintro e w4 ⟨rfl, hd⟩; have HB := Aside0.mk (below_then HB.out HB.out.size hd.below); have HC2 := Aside0.mk (Kd.C_below HC2.out hd.below); clear hd))
  go_ret2
  exact ⟨_, _, rfl, Nat.zero_le _, nilC _, HB.out⟩

theorem spec_vc_calls (a0 a1 a2 a3 a4 a5 : Int) (s1 s2 : Nat) (A1 : Option Addr) (c1 : Nat) (pf : List (List Int)) (A2 : Option Addr) (c2 : Nat) (r1 : List Int) (A3 : Option Addr) (c3 : Nat) (r2 : List Int) (w : World) (hs2 : s2 < 18446744073709551616) (h1 : CL w A1 pf) (hpc : pf.length ≤ c1) (h2 : CB w A2 r1) (hc2 : r1.length ≤ c2) (h3 : CB w A3 r2) (hc3 : r2.length ≤ c3) (hr1 : r1.length ≤ 100000) (hps : ∀ h ∈ pf, h.length ≤ 5000) :
    Calls Tryd.prog 24 #[.agg #[.int .i64 a0, .int .i64 a1, .int .i64 a2, .int .u64 a3, .int .u64 a4, .int .u64 a5], .int .u64 (s1 : Int), .int .u64 (s2 : Int), .slice A1 pf.length c1, .slice A2 r1.length c2, .slice A3 r2.length c3] w fun en w' => ∃ A cc, en = .returned (.tuple #[.int .i64 (vcF a0 a2 a5 s1 s2 pf r1 r2).1, .slice A (vcF a0 a2 a5 s1 s2 pf r1 r2).2.length cc]) ∧ (vcF a0 a2 a5 s1 s2 pf r1 r2).2.length ≤ cc ∧ CB w' A (vcF a0 a2 a5 s1 s2 pf r1 r2).2 ∧ Below w.heap.size w w' := by
  unfold vcF
  by_cases k1 : s2 < s1
  · rw [if_pos k1]
    exact vs_gt a0 a1 a2 a3 a4 a5 s1 s2 A1 c1 pf A2 c2 r1 A3 c3 r2 w k1
  rw [if_neg k1]
  by_cases k2 : s1 = s2
  · rw [if_pos k2]
    by_cases k3 : 0 < pf.length
    · rw [if_pos k3]
      by_cases k4 : s1 = 0
      · exact vs_zero_n a0 a1 a2 a3 a4 a5 s1 s2 A1 c1 pf A2 c2 r1 A3 c3 r2 w k1 k4 k3
      · exact vs_eq_n a0 a1 a2 a3 a4 a5 s1 s2 A1 c1 pf A2 c2 r1 A3 c3 r2 w k2 k4 k3
    rw [if_neg k3]
    by_cases k5 : sameB r1 r2 = true
    · rw [if_pos k5]
      by_cases k4 : s1 = 0
      · exact vs_same_z a0 a1 a2 a3 a4 a5 s1 s2 A1 c1 pf A2 c2 r1 A3 c3 r2 w k2 k4 k3 h2 hc2 h3 hc3 k5
      · exact vs_same_p a0 a1 a2 a3 a4 a5 s1 s2 A1 c1 pf A2 c2 r1 A3 c3 r2 w k2 k4 k3 h2 hc2 h3 hc3 k5
    · rw [if_neg k5]
      by_cases k4 : s1 = 0
      · exact vs_diff_z a0 a1 a2 a3 a4 a5 s1 s2 A1 c1 pf A2 c2 r1 A3 c3 r2 w k2 k4 k3 h2 hc2 h3 hc3 (by simpa using k5)
      · exact vs_diff_p a0 a1 a2 a3 a4 a5 s1 s2 A1 c1 pf A2 c2 r1 A3 c3 r2 w k2 k4 k3 h2 hc2 h3 hc3 (by simpa using k5)
  rw [if_neg k2]
  by_cases k4 : s1 = 0
  · rw [if_pos k4]
    by_cases k3 : 0 < pf.length
    · rw [if_pos k3]
      exact vs_zero_n a0 a1 a2 a3 a4 a5 s1 s2 A1 c1 pf A2 c2 r1 A3 c3 r2 w k1 k4 k3
    · rw [if_neg k3]
      exact vs_zero a0 a1 a2 a3 a4 a5 s1 s2 A1 c1 pf A2 c2 r1 A3 c3 r2 w (by omega) k4 k3
  rw [if_neg k4]
  obtain ⟨x, rfl⟩ : ∃ x, s1 = x + 1 := ⟨s1 - 1, by omega⟩
  rw [show x + 1 - 1 = x by omega]
  obtain ⟨m, hm, hsh⟩ := Go.Proofs.YtfhcpniibiobgaaDoor.M.ctz_spec (x + 1) (by omega) (by omega)
  unfold vcSt
  generalize Lib.ctz 64 (x + 1) = sh at hm hsh ⊢
  have hsd : 2 ^ sh ∣ x + 1 := ⟨_, hm⟩
  have hsn : ¬ 2 ^ (sh + 1) ∣ x + 1 := by
    rintro ⟨q, hq⟩
    rw [hm, Nat.pow_succ, Nat.mul_assoc] at hq
    have := Nat.eq_of_mul_eq_mul_left (Nat.two_pow_pos sh) hq
    omega
  obtain ⟨st, hst⟩ : ∃ st, st = if x + 1 = 2 ^ sh then 0 else 1 := ⟨_, rfl⟩
  rw [← hst]
  obtain ⟨pp, hpp, hpl, hpT⟩ := proof_len x sh st hsd hsn hst 64 0 s2 134 true (Nat.le_refl _) (Nat.zero_le _) (by omega) hs2 ⟨64, 0, Nat.le_refl _, by omega, by omega⟩ (fun h => absurd h k2) ⟨fun _ => rfl, fun _ => rfl⟩ (by omega)
  rw [Nat.sub_zero, Nat.sub_zero] at hpl
  have hpf : spec_ProofParts.f 134 ((x + 1 : Nat) : Int) (s2 : Int) = some pp := by
    unfold spec_ProofParts.f
    rw [show (0 : Int) = ((0 : Nat) : Int) from rfl, hpp]
    rfl
  by_cases k5 : pf.length + sh ≠ st + vlen x s2
  · rw [if_pos k5]
    exact vs_len a0 a1 a2 a3 a4 a5 (x + 1) s2 A1 c1 pf A2 c2 r1 A3 c3 r2 w (by omega) k4 pp hpf (by omega)
  rw [if_neg k5]
  have RFX := fun (W : World) (hb : Below w.heap.size w W) => rootsFrom_calls a0 a1 a2 a3 a4 a5 (x + 1) x sh st s2 rfl hsd hsn hst A1 c1 A2 c2 pf r1 hr1 hc2 W (by omega) hs2 (by omega) (by omega) hpc hps (Kd.C_below h1 hb) (Kd.C_below h2 hb)
  generalize rootsF a0 a2 a5 (x + 1) 64 0 s2 true pf r1 = fg at RFX ⊢
  by_cases k6 : sameB fg.1 r1 = true
  · rw [if_pos k6]
    by_cases k7 : sameB fg.2 r2 = true
    · rw [if_pos k7]
      exact vs_yes a0 a1 a2 a3 a4 a5 (x + 1) s2 A1 c1 pf A2 c2 r1 A3 c3 r2 w (by omega) k4 pp hpf (by omega) h2 hc2 h3 hc3 fg.1 fg.2 RFX k6 k7
    · rw [if_neg k7]
      exact vs_no2 a0 a1 a2 a3 a4 a5 (x + 1) s2 A1 c1 pf A2 c2 r1 A3 c3 r2 w (by omega) k4 pp hpf (by omega) h2 hc2 h3 hc3 fg.1 fg.2 RFX k6 (by simpa using k7)
  · rw [if_neg k6]
    exact vs_no1 a0 a1 a2 a3 a4 a5 (x + 1) s2 A1 c1 pf A2 c2 r1 A3 c3 r2 w (by omega) k4 pp hpf (by omega) h2 hc2 h3 hc3 fg.1 fg.2 RFX (by simpa using k6)
end Go.Proofs.YtfhcpniibiobgaaDoor.Qf
