/- The reference's root from a path, two lists of texts, the reference's look at a path, and the law FnInclusionBinds: walked. -/
import Derived.Test.YtfhcpniibiobgaaPb
import Derived.Test.YtfhcpniibiobgaaOp
import Derived.Deep.RegionHeld3
namespace Go.Proofs.Ytfhcpniibiobgaa.Qg
open Go.RowKit Go.Proofs.YtfhcpniibiobgaaW.PrintWords Go.Proofs.YtfhcpniibiobgaaW.PrintLast Go.Proofs.YtfhcpniibiobgaaW.PrintMore
open Hs (CB CL at_L at_B infoB infoL R_of_blk)
open Go.Proofs.Ytfhcpniibiobgaa.Pure (hcF hcF_len specHC split_go wu rootF rootF_len)
open Go.Proofs.Ytfhcpniibiobgaa.M (vlen vlen_left vlen_right vlen_one)

set_option maxHeartbeats 2000000 in
set_option maxRecDepth 100000 in
theorem rootIn_one (a0 a1 a2 a3 a4 a5 : Int) (x b e : Nat) (A1 : Option Addr) (c1 : Nat) (leaf : List Int) (hlc : leaf.length ≤ c1) (A2 : Option Addr) (c2 n2 : Nat) (he : e < 18446744073709551616) (hone : e - b = 1) (w : World) (h1 : CB w A1 leaf) :
    Calls Try.prog 23 #[.agg #[.int .i64 a0, .int .i64 a1, .int .i64 a2, .int .u64 a3, .int .u64 a4, .int .u64 a5], .int .u64 (x : Int), .agg #[.int .u64 (b : Int), .int .u64 (e : Int)], .slice A1 leaf.length c1, .slice A2 n2 c2] w fun en w' => ∃ A c, en = .returned (.slice A leaf.length c) ∧ leaf.length ≤ c ∧ CB w' A leaf ∧ Below w.heap.size w w' := by
  have H1 := Aside0.mk h1
  clear h1
  have e1 : (IntKind.u64.wrap ((e : Int) - (b : Int)) == 1) = true := by
    rw [wu _ (by omega), show ((e : Int) - (b : Int)) = 1 by omega]
    rfl
  go_enter Try.func23, Try.ntmps23
  go_wp2
  go_ret
  exact ⟨_, _, rfl, hlc, Kd.C_below H1.out (below_alloc (below_alloc (Below.refl _ _) _) _), below_alloc (below_alloc (Below.refl _ _) _) _⟩

set_option maxHeartbeats 2000000 in
set_option maxRecDepth 100000 in
theorem rootIn_left (a0 a1 a2 a3 a4 a5 : Int) (x b e d s m : Nat) (A1 : Option Addr) (c1 n1 : Nat) (A2 : Option Addr) (c2 : Nat) (path : List (List Int)) (r : List Int) (hr : r.length ≤ 1000000) (he : e < 18446744073709551616) (hd : b + d = e) (hone : d ≠ 1) (hs : b + s < 18446744073709551616) (hsp : spec_split.f 100 ((d : Nat) : Int) = some ((s : Nat) : Int)) (hx : x < b + s) (hm : path.length = m + 1) (hm2 : m < 100) (hc2 : path.length ≤ c2) (w : World) (hps : (path.getD m []).length ≤ 5000) (h2 : CL w A2 path)
    (ih : ∀ W : World, Below w.heap.size w W → Calls Try.prog 23 #[.agg #[.int .i64 a0, .int .i64 a1, .int .i64 a2, .int .u64 a3, .int .u64 a4, .int .u64 a5], .int .u64 (x : Int), .agg #[.int .u64 (b : Int), .int .u64 ((b : Int) + (s : Int))], .slice A1 n1 c1, .slice A2 m c2] W fun en w' => ∃ A c, en = .returned (.slice A r.length c) ∧ r.length ≤ c ∧ CB w' A r ∧ Below W.heap.size W w') :
    Calls Try.prog 23 #[.agg #[.int .i64 a0, .int .i64 a1, .int .i64 a2, .int .u64 a3, .int .u64 a4, .int .u64 a5], .int .u64 (x : Int), .agg #[.int .u64 (b : Int), .int .u64 (e : Int)], .slice A1 n1 c1, .slice A2 path.length c2] w fun en w' => ∃ A c, en = .returned (.slice A (hcF a0 a2 a5 r (path.getD m [])).length c) ∧ (hcF a0 a2 a5 r (path.getD m [])).length ≤ c ∧ CB w' A (hcF a0 a2 a5 r (path.getD m [])) ∧ Below w.heap.size w w' := by
  have ewr : IntKind.u64.wrap ((e : Int) - (b : Int)) = (d : Int) := by rw [wu _ (by omega)]; omega
  have e1 : (IntKind.u64.wrap ((e : Int) - (b : Int)) == 1) = false := by
    rw [ewr]
    simpa using (show ¬ (d : Int) = 1 by omega)
  have ek : IntKind.u64.wrap ((b : Int) + (s : Int)) = ((b + s : Nat) : Int) := by rw [wu _ (by omega)]; omega
  have et : decide ((x : Int) < ((b + s : Nat) : Int)) = true := decide_eq_true (by omega)
  obtain ⟨ad, A0, c0, rfl, hcell, hl0, hC0⟩ := at_L h2 m (by omega)
  rw [hm]
  rw [hm] at hc2
  obtain ⟨iL, hiL, hsL⟩ := Option.map_eq_some_iff.1 infoL
  have hcut : ∀ W : World, (Instr.slice 26 (.slice (some ad) (m + 1) c2) none (some (.int .i64 (m : Int))) none).run Try.prog W = .ok (.slice (some ad) m c2) W := fun W => by
    have h := cut_to (P := Try.prog) 26 25 .i64 Try.underlying26 hiL (some ad) (m + 1) c2 (m : Int) (by omega) (by omega) hc2 W
    rw [Int.toNat_natCast] at h
    exact h
  clear hiL hsL
  have p0 : (0 : Int) ≤ (m : Int) := by omega
  have p1 : (m : Int) < ((m + 1 : Nat) : Int) := by omega
  have p2 : (m : Int) < (m : Int) + 1 := by omega
  have SP := Aside0.mk hsp
  have H2 := Aside0.mk h2
  have H0 := Aside0.mk hC0
  have IH := Aside0.mk ih
  have HD := Aside0.mk hd
  have HM := Aside0.mk hm
  clear h2 hsp ih hd hm hC0
  go_enter Try.func23, Try.ntmps23
  go_wp2
  go_quiet ((go_at_call 24; exact Calls.quiet_of ((spec_split.calls 100 _ _ _ SP.out).mono fun _ _ ⟨he, hd⟩ => ⟨he, hd.out⟩)))
  go_wp2
  have hB1 := pw_below_drewN (below_alloc (below_alloc (Below.refl w.heap.size w) (.cells #[.int .i64 a0, .int .i64 a1, .int .i64 a2, .int .u64 a3, .int .u64 a4, .int .u64 a5] 24)) (.cells #[.int .u64 (b : Int), .int .u64 (e : Int)] 49)) nq
  go_region_held3 (fun w' => w'.cell? ⟨w.heap.size, 0, none⟩ = some (.int .i64 a0) ∧ w'.cell? ⟨w.heap.size, 1, none⟩ = some (.int .i64 a1) ∧ w'.cell? ⟨w.heap.size, 2, none⟩ = some (.int .i64 a2) ∧ w'.cell? ⟨w.heap.size, 3, none⟩ = some (.int .u64 a3) ∧ w'.cell? ⟨w.heap.size, 4, none⟩ = some (.int .u64 a4) ∧ w'.cell? ⟨w.heap.size, 5, none⟩ = some (.int .u64 a5) ∧ w'.cell? ⟨w.heap.size + 1, 0, none⟩ = some (.int .u64 (b : Int)) ∧ w'.cell? (ad.add m) = some (.slice A0 (path.getD m []).length c0) ∧ Below w.heap.size w w')
    (((try dsimp only); (try go_split_ands); (repeat' apply And.intro) <;> first | (go_keep; done) | exact below_drew hB1 | (refine pw_cell_below hb ?_; assumption) | (refine below_then ?_ ?_ hb; assumption; exact Below.size (by assumption))))
    (first
      | (go_at_call 23; refine (IH.out _ (by go_split_ands; assumption)).mono ?_; rintro e w1 ⟨A, c, rfl, hle, hC, hb⟩)
      | (go_at_call 20; refine (spec_HashChildren.calls 2000000 a0 a1 a2 a3 a4 a5 _ _ r _ _ (path.getD m []) _ _ (by assumption) (by assumption) (Kd.C_below H0.out (by go_split_ands; assumption)) hl0 (specHC a0 a1 a2 a3 a4 a5 r (path.getD m []) (by omega) (by omega) 2000000 (by omega))).mono ?_; rintro e w2 ⟨v, rfl, hR, hb⟩))
  obtain ⟨A5, c5, rfl, hl5, hC5⟩ := Kd.R_reads hR
  go_wp2
  go_ret
  go_split_ands
  exact ⟨_, _, rfl, hl5, hC5, by assumption⟩
set_option maxHeartbeats 2000000 in
set_option maxRecDepth 100000 in
theorem rootIn_right (a0 a1 a2 a3 a4 a5 : Int) (x b e d s m : Nat) (A1 : Option Addr) (c1 n1 : Nat) (A2 : Option Addr) (c2 : Nat) (path : List (List Int)) (r : List Int) (hr : r.length ≤ 1000000) (he : e < 18446744073709551616) (hd : b + d = e) (hone : d ≠ 1) (hs : b + s < 18446744073709551616) (hsp : spec_split.f 100 ((d : Nat) : Int) = some ((s : Nat) : Int)) (hx : b + s ≤ x) (hm : path.length = m + 1) (hm2 : m < 100) (hc2 : path.length ≤ c2) (w : World) (hps : (path.getD m []).length ≤ 5000) (h2 : CL w A2 path)
    (ih : ∀ W : World, Below w.heap.size w W → Calls Try.prog 23 #[.agg #[.int .i64 a0, .int .i64 a1, .int .i64 a2, .int .u64 a3, .int .u64 a4, .int .u64 a5], .int .u64 (x : Int), .agg #[.int .u64 ((b : Int) + (s : Int)), .int .u64 (e : Int)], .slice A1 n1 c1, .slice A2 m c2] W fun en w' => ∃ A c, en = .returned (.slice A r.length c) ∧ r.length ≤ c ∧ CB w' A r ∧ Below W.heap.size W w') :
    Calls Try.prog 23 #[.agg #[.int .i64 a0, .int .i64 a1, .int .i64 a2, .int .u64 a3, .int .u64 a4, .int .u64 a5], .int .u64 (x : Int), .agg #[.int .u64 (b : Int), .int .u64 (e : Int)], .slice A1 n1 c1, .slice A2 path.length c2] w fun en w' => ∃ A c, en = .returned (.slice A (hcF a0 a2 a5 (path.getD m []) r).length c) ∧ (hcF a0 a2 a5 (path.getD m []) r).length ≤ c ∧ CB w' A (hcF a0 a2 a5 (path.getD m []) r) ∧ Below w.heap.size w w' := by
  have ewr : IntKind.u64.wrap ((e : Int) - (b : Int)) = (d : Int) := by rw [wu _ (by omega)]; omega
  have e1 : (IntKind.u64.wrap ((e : Int) - (b : Int)) == 1) = false := by
    rw [ewr]
    simpa using (show ¬ (d : Int) = 1 by omega)
  have ek : IntKind.u64.wrap ((b : Int) + (s : Int)) = ((b + s : Nat) : Int) := by rw [wu _ (by omega)]; omega
  have et : decide ((x : Int) < ((b + s : Nat) : Int)) = false := decide_eq_false (by omega)
  obtain ⟨ad, A0, c0, rfl, hcell, hl0, hC0⟩ := at_L h2 m (by omega)
  rw [hm]
  rw [hm] at hc2
  obtain ⟨iL, hiL, hsL⟩ := Option.map_eq_some_iff.1 infoL
  have hcut : ∀ W : World, (Instr.slice 26 (.slice (some ad) (m + 1) c2) none (some (.int .i64 (m : Int))) none).run Try.prog W = .ok (.slice (some ad) m c2) W := fun W => by
    have h := cut_to (P := Try.prog) 26 25 .i64 Try.underlying26 hiL (some ad) (m + 1) c2 (m : Int) (by omega) (by omega) hc2 W
    rw [Int.toNat_natCast] at h
    exact h
  clear hiL hsL
  have p0 : (0 : Int) ≤ (m : Int) := by omega
  have p1 : (m : Int) < ((m + 1 : Nat) : Int) := by omega
  have p2 : (m : Int) < (m : Int) + 1 := by omega
  have SP := Aside0.mk hsp
  have H2 := Aside0.mk h2
  have H0 := Aside0.mk hC0
  have IH := Aside0.mk ih
  have HD := Aside0.mk hd
  have HM := Aside0.mk hm
  clear h2 hsp ih hd hm hC0
  go_enter Try.func23, Try.ntmps23
  go_wp2
  go_quiet ((go_at_call 24; exact Calls.quiet_of ((spec_split.calls 100 _ _ _ SP.out).mono fun _ _ ⟨he, hd⟩ => ⟨he, hd.out⟩)))
  go_wp2
  have hB1 := pw_below_drewN (below_alloc (below_alloc (Below.refl w.heap.size w) (.cells #[.int .i64 a0, .int .i64 a1, .int .i64 a2, .int .u64 a3, .int .u64 a4, .int .u64 a5] 24)) (.cells #[.int .u64 (b : Int), .int .u64 (e : Int)] 49)) nq
  go_region_held3 (fun w' => w'.cell? ⟨w.heap.size, 0, none⟩ = some (.int .i64 a0) ∧ w'.cell? ⟨w.heap.size, 1, none⟩ = some (.int .i64 a1) ∧ w'.cell? ⟨w.heap.size, 2, none⟩ = some (.int .i64 a2) ∧ w'.cell? ⟨w.heap.size, 3, none⟩ = some (.int .u64 a3) ∧ w'.cell? ⟨w.heap.size, 4, none⟩ = some (.int .u64 a4) ∧ w'.cell? ⟨w.heap.size, 5, none⟩ = some (.int .u64 a5) ∧ w'.cell? ⟨w.heap.size + 1, 1, none⟩ = some (.int .u64 (e : Int)) ∧ w'.cell? (ad.add m) = some (.slice A0 (path.getD m []).length c0) ∧ Below w.heap.size w w')
    (((try dsimp only); (try go_split_ands); (repeat' apply And.intro) <;> first | (go_keep; done) | exact below_drew hB1 | (refine pw_cell_below hb ?_; assumption) | (refine below_then ?_ ?_ hb; assumption; exact Below.size (by assumption))))
    (first
      | (go_at_call 23; refine (IH.out _ (by go_split_ands; assumption)).mono ?_; rintro e w1 ⟨A, c, rfl, hle, hC, hb⟩)
      | (go_at_call 20; refine (spec_HashChildren.calls 2000000 a0 a1 a2 a3 a4 a5 _ _ (path.getD m []) _ _ r _ _ (Kd.C_below H0.out (by go_split_ands; assumption)) hl0 (by assumption) (by assumption) (specHC a0 a1 a2 a3 a4 a5 (path.getD m []) r (by omega) (by omega) 2000000 (by omega))).mono ?_; rintro e w2 ⟨v, rfl, hR, hb⟩))
  obtain ⟨A5, c5, rfl, hl5, hC5⟩ := Kd.R_reads hR
  go_wp2
  go_ret
  go_split_ands
  exact ⟨_, _, rfl, hl5, hC5, by assumption⟩

theorem rootIn_calls (a0 a1 a2 a3 a4 a5 : Int) (x : Nat) (A1 : Option Addr) (c1 : Nat) (leaf : List Int) (hlf : leaf.length ≤ 5000) (hlc : leaf.length ≤ c1) (A2 : Option Addr) (c2 : Nat) : ∀ (T b e : Nat) (path : List (List Int)) (w : World), T ≤ 64 → b ≤ x → x < e → e < 18446744073709551616 → e - b ≤ 2 ^ T → path.length = vlen (x - b) (e - b) → path.length < 100 → path.length ≤ c2 → (∀ h ∈ path, h.length ≤ 5000) → CB w A1 leaf → CL w A2 path →
    Calls Try.prog 23 #[.agg #[.int .i64 a0, .int .i64 a1, .int .i64 a2, .int .u64 a3, .int .u64 a4, .int .u64 a5], .int .u64 (x : Int), .agg #[.int .u64 (b : Int), .int .u64 (e : Int)], .slice A1 leaf.length c1, .slice A2 path.length c2] w fun en w' => ∃ A c, en = .returned (.slice A (rootF a0 a2 a5 x T b e leaf path).length c) ∧ (rootF a0 a2 a5 x T b e leaf path).length ≤ c ∧ CB w' A (rootF a0 a2 a5 x T b e leaf path) ∧ Below w.heap.size w w'
  | 0, b, e, path, w, hT, hb, hx, he, hw, hpl, hp100, hpc, hps, h1, h2 => rootIn_one a0 a1 a2 a3 a4 a5 x b e A1 c1 leaf hlc A2 c2 path.length he (by simp at hw; omega) w h1
  | T + 1, b, e, path, w, hT, hb, hx, he, hw, hpl, hp100, hpc, hps, h1, h2 => by
    rw [rootF]
    by_cases hone : e - b = 1
    · rw [if_pos hone]
      exact rootIn_one a0 a1 a2 a3 a4 a5 x b e A1 c1 leaf hlc A2 c2 path.length he hone w h1
    · rw [if_neg hone]
      have n0 : e - b - 1 ≠ 0 := by omega
      have g1 : 2 ^ Nat.log2 (e - b - 1) < e - b := by
        have := Nat.log2_self_le n0
        omega
      have g2 : e - b ≤ 2 ^ (Nat.log2 (e - b - 1) + 1) := by
        have := Nat.lt_log2_self (n := e - b - 1)
        omega
      generalize Nat.log2 (e - b - 1) = t at g1 g2 ⊢
      have h64 : t < 64 := by
        have : 2 ^ t < 2 ^ 64 := by omega
        exact (Nat.pow_lt_pow_iff_right (by omega)).1 this
      have htT : t < T + 1 := (Nat.pow_lt_pow_iff_right (by omega : 1 < 2)).1 (Nat.lt_of_lt_of_le g1 hw)
      have hle : 2 ^ t ≤ 2 ^ T := Nat.pow_le_pow_right (by omega) (by omega)
      have hq : 2 ^ (t + 1) = 2 * 2 ^ t := by rw [Nat.pow_succ, Nat.mul_comm]
      have hp := Nat.two_pow_pos t
      have hsp : spec_split.f 100 ((e - b : Nat) : Int) = some ((2 ^ t : Nat) : Int) := split_go (e - b) t (by omega) g1 g2 t 0 100 (by omega) (by omega)
      have hg : ∀ m, (path.getD m []).length ≤ 5000 := fun m => by
        rw [List.getD_eq_getElem?_getD]
        rcases h : path[m]? with _ | y
        · simp
        · exact hps y (List.mem_of_getElem? h)
      have htk : ∀ m, ∀ h ∈ path.take m, h.length ≤ 5000 := fun m h hh => hps h (List.mem_of_mem_take hh)
      by_cases hlt : x < b + 2 ^ t
      · rw [if_pos hlt]
        have hvl := hpl.trans (vlen_left h64 (by omega) g1 g2 (by omega))
        have hvp : (path.take t).length = t := by rw [List.length_take]; omega
        have hlen := rootF_len a0 a2 a5 x T b (b + 2 ^ t) leaf (path.take t) (htk t)
        rw [show path.length - 1 = t by omega]
        refine rootIn_left a0 a1 a2 a3 a4 a5 x b e (e - b) (2 ^ t) t A1 c1 leaf.length A2 c2 path _ (by omega) he (by omega) hone (by omega) hsp hlt hvl (by omega) hpc w (hg t) h2 fun W hW => ?_
        have := rootIn_calls a0 a1 a2 a3 a4 a5 x A1 c1 leaf hlf hlc A2 c2 T b (b + 2 ^ t) (path.take t) W (by omega) hb hlt (by omega) (by omega) (by rw [hvp, show b + 2 ^ t - b = 2 ^ t by omega, Pure.vlen_pow t (x - b) h64 (by omega)]) (by omega) (by omega) (htk t) (Kd.C_below h1 hW) (Kd.C_take (Kd.C_below h2 hW) (by omega))
        rw [hvp] at this
        rw [show ((b : Int) + ((2 ^ t : Nat) : Int)) = ((b + 2 ^ t : Nat) : Int) by omega]
        exact this
      · rw [if_neg hlt]
        have hvl := hpl.trans (vlen_right h64 (by omega) (by omega) g2)
        obtain ⟨m, hm⟩ : ∃ m, m = vlen (x - b - 2 ^ t) (e - b - 2 ^ t) := ⟨_, rfl⟩
        rw [← hm] at hvl
        have hvp : (path.take m).length = m := by rw [List.length_take]; omega
        have hlen := rootF_len a0 a2 a5 x T (b + 2 ^ t) e leaf (path.take m) (htk m)
        rw [show path.length - 1 = m by omega]
        refine rootIn_right a0 a1 a2 a3 a4 a5 x b e (e - b) (2 ^ t) m A1 c1 leaf.length A2 c2 path _ (by omega) he (by omega) hone (by omega) hsp (by omega) hvl (by omega) hpc w (hg m) h2 fun W hW => ?_
        have := rootIn_calls a0 a1 a2 a3 a4 a5 x A1 c1 leaf hlf hlc A2 c2 T (b + 2 ^ t) e (path.take m) W (by omega) (by omega) hx he (by omega) (by rw [hvp, hm, show x - (b + 2 ^ t) = x - b - 2 ^ t by omega, show e - (b + 2 ^ t) = e - b - 2 ^ t by omega]) (by omega) (by omega) (htk m) (Kd.C_below h1 hW) (Kd.C_take (Kd.C_below h2 hW) (by omega))
        rw [hvp] at this
        rw [show ((b : Int) + ((2 ^ t : Nat) : Int)) = ((b + 2 ^ t : Nat) : Int) by omega]
        exact this
end Go.Proofs.Ytfhcpniibiobgaa.Qg
namespace Go.Proofs.Ytfhcpniibiobgaa.Qg
open Go.RowKit Go.Proofs.YtfhcpniibiobgaaW.PrintWords Go.Proofs.YtfhcpniibiobgaaW.PrintLast Go.Proofs.YtfhcpniibiobgaaW.PrintMore
open Hs (CB CL at_L at_B infoB infoL R_of_blk)

/-- Two texts are one. -/
def eqB (l m : List Int) : Bool := (strOfNums l).toList == (strOfNums m).toList
def sameF (L M : List (List Int)) : Bool := decide (L.length = M.length) && (List.range L.length).all fun j => eqB (L.getD j []) (M.getD j [])
theorem sameF_ne {L M : List (List Int)} (h : L.length ≠ M.length) : sameF L M = false := by
  unfold sameF
  rw [decide_eq_false h]
  rfl
theorem sameF_no {L M : List (List Int)} (j : Nat) (hj : j < L.length) (h : eqB (L.getD j []) (M.getD j []) = false) : sameF L M = false := by
  unfold sameF
  rw [Bool.and_eq_false_iff]
  refine .inr ?_
  rw [List.all_eq_false]
  exact ⟨j, List.mem_range.2 hj, by rw [h]; simp⟩
theorem sameF_yes {L M : List (List Int)} (hl : L.length = M.length) (h : ∀ j, j < L.length → eqB (L.getD j []) (M.getD j []) = true) : sameF L M = true := by
  unfold sameF
  rw [decide_eq_true hl, Bool.true_and, List.all_eq_true]
  exact fun j hj => h j (List.mem_range.1 hj)

set_option maxHeartbeats 2000000 in
set_option maxRecDepth 100000 in
theorem same_calls (A1 : Option Addr) (c1 : Nat) (L : List (List Int)) (A2 : Option Addr) (c2 : Nat) (M : List (List Int)) (hL : L.length ≤ 5864062014805) (w : World) (h1 : CL w A1 L) (h2 : CL w A2 M) :
    Calls Try.prog 11 #[.slice A1 L.length c1, .slice A2 M.length c2] w fun e w' => e = .returned (.bool (sameF L M)) ∧ Drawn0 w w' := by
  have H1 := Aside0.mk h1
  have H2 := Aside0.mk h2
  clear h1 h2
  by_cases hl : L.length = M.length
  case neg =>
    have t1 : ((L.length : Int) != (M.length : Int)) = true := by rw [bne_iff_ne]; omega
    have HF := Aside0.mk (sameF_ne hl)
    clear hl
    go_enter Try.func11, Try.ntmps11
    go_wp2
    go_ret
    exact ⟨by rw [HF.out]; rfl, Drawn0.refl _⟩
  · have t1 : ((L.length : Int) != (M.length : Int)) = false := by rw [bne_eq_false_iff_eq]; omega
    have HL := Aside0.mk hl
    clear hl
    go_enter Try.func11, Try.ntmps11
    go_wp2
    (try simp only [Act.put, List.setIfInBounds_toArray, List.set_cons_zero, List.set_cons_succ])
    go_loopg [13] L.length (fun kq v13 w' => ∃ j : Nat, j + kq = L.length ∧ v13 = .int .i64 (j : Nat) ∧ Aside0 (∀ i, i < j → eqB (L.getD i []) (M.getD i []) = true) ∧ Drawn0 w w')
    case atStart => exact ⟨0, by omega, rfl, ⟨fun i hi => by omega⟩, Drawn0.refl _⟩
    case round =>
      obtain ⟨j, hj, rfl, HA, HD⟩ := hrel
      by_cases hlt : j < L.length
      · obtain ⟨ad1, A3, c3, ead1, hx1, hl1, hC1⟩ := at_L (Kd.C_below H1.out HD.below) j hlt
        obtain ⟨ad2, A4, c4, ead2, hx2, hl2, hC2⟩ := at_L (Kd.C_below H2.out HD.below) j (by rw [← HL.out]; exact hlt)
        cases ead1
        cases ead2
        obtain ⟨x, hx⟩ : ∃ x, x = L.getD j [] := ⟨_, rfl⟩
        obtain ⟨y, hy⟩ : ∃ y, y = M.getD j [] := ⟨_, rfl⟩
        rw [← hx] at hx1 hl1 hC1
        rw [← hy] at hx2 hl2 hC2
        have HX := Aside0.mk hx
        have HY := Aside0.mk hy
        clear hx hy
        have hs1 := fun n => Kd.C_string (P := Try.prog) (A := A3) (c := c3) Try.underlying25 Try.underlying5 Try.underlying9 (Kd.C_drewN hC1 n)
        have hs2 := fun n => Kd.C_string (P := Try.prog) (A := A4) (c := c4) Try.underlying25 Try.underlying5 Try.underlying9 (Kd.C_drewN hC2 n)
        have hltM : (j : Int) < (M.length : Int) := by have := HL.out; omega
        have hltL : (j : Int) < (L.length : Int) := by omega
        have hj0 : (0 : Int) ≤ (j : Int) := by omega
        by_cases he : eqB x y = true
        · have t2 : ((strOfNums x).toList == (strOfNums y).toList) = true := he
          have HE := Aside0.mk he
          clear he
          go_wp2
          go_quiet (fail)
          go_wp2
          go_roundg (L.length - (j + 1))
          case measure => omega
          case rel =>
            refine ⟨j + 1, by omega, by go_num, ⟨fun i hi => ?_⟩, HD.step _⟩
            by_cases e : i = j
            · subst e
              rw [← HX.out, ← HY.out]
              exact HE.out
            · exact HA.out i (by omega)
        · have t2 : ((strOfNums x).toList == (strOfNums y).toList) = false := by
            cases hh : ((strOfNums x).toList == (strOfNums y).toList) with
            | false => rfl
            | true => exact absurd hh he
          have HF : Aside0 (sameF L M = false) := ⟨sameF_no j hlt (by rw [← HX.out, ← HY.out]; simpa using he)⟩
          clear he
          go_wp2
          go_quiet (fail)
          go_wp2
          go_ret
          exact ⟨by rw [HF.out]; rfl, HD.step _⟩
      · have HF := Aside0.mk (sameF_yes HL.out (fun i hi => HA.out i (by omega)))
        go_wp2
        go_ret
        exact ⟨by rw [HF.out]; rfl, HD⟩
end Go.Proofs.Ytfhcpniibiobgaa.Qg
namespace Go.Proofs.Ytfhcpniibiobgaa.Qg
open Go.RowKit Go.Proofs.YtfhcpniibiobgaaW.PrintWords Go.Proofs.YtfhcpniibiobgaaW.PrintLast Go.Proofs.YtfhcpniibiobgaaW.PrintMore
open Hs (CB CL at_L at_B infoB infoL R_of_blk bcell)
open Go.Proofs.Ytfhcpniibiobgaa.Pure (hcF hcF_len specHC split_go wu rootF rootF_len path_go)
open Go.Proofs.Ytfhcpniibiobgaa.M (vlen vlen_left vlen_right vlen_one)

theorem rootIn0 (a0 a1 a2 a3 a4 a5 : Int) (x n : Nat) (A1 : Option Addr) (c1 : Nat) (leaf : List Int) (hlf : leaf.length ≤ 5000) (hlc : leaf.length ≤ c1) (A2 : Option Addr) (c2 : Nat) (path : List (List Int)) (w : World) (hx : x < n) (hn : n < 18446744073709551616) (hpl : path.length = vlen x n) (hp : path.length < 100) (hpc : path.length ≤ c2) (hps : ∀ h ∈ path, h.length ≤ 5000) (h1 : CB w A1 leaf) (h2 : CL w A2 path) :
    Calls Try.prog 23 #[.agg #[.int .i64 a0, .int .i64 a1, .int .i64 a2, .int .u64 a3, .int .u64 a4, .int .u64 a5], .int .u64 (x : Int), .agg #[.int .u64 0, .int .u64 (n : Int)], .slice A1 leaf.length c1, .slice A2 path.length c2] w fun en w' => ∃ A c, en = .returned (.slice A (rootF a0 a2 a5 x 64 0 n leaf path).length c) ∧ (rootF a0 a2 a5 x 64 0 n leaf path).length ≤ c ∧ CB w' A (rootF a0 a2 a5 x 64 0 n leaf path) ∧ Below w.heap.size w w' :=
  rootIn_calls a0 a1 a2 a3 a4 a5 x A1 c1 leaf hlf hlc A2 c2 64 0 n path w (Nat.le_refl _) (Nat.zero_le _) hx hn (by omega) (by rw [Nat.sub_zero, Nat.sub_zero]; exact hpl) hp hpc hps h1 h2
set_option maxHeartbeats 1000000 in
set_option maxRecDepth 100000 in
theorem rootFrom_calls (a0 a1 a2 a3 a4 a5 : Int) (x n : Nat) (A1 : Option Addr) (c1 : Nat) (leaf : List Int) (hlf : leaf.length ≤ 5000) (hlc : leaf.length ≤ c1) (A2 : Option Addr) (c2 : Nat) (path : List (List Int)) (w : World) (hx : x < n) (hn : n < 18446744073709551616) (hpl : path.length = vlen x n) (hp : path.length < 100) (hpc : path.length ≤ c2) (hps : ∀ h ∈ path, h.length ≤ 5000) (h1 : CB w A1 leaf) (h2 : CL w A2 path) :
    Calls Try.prog 18 #[.agg #[.int .i64 a0, .int .i64 a1, .int .i64 a2, .int .u64 a3, .int .u64 a4, .int .u64 a5], .int .u64 (x : Int), .int .u64 (n : Int), .slice A1 leaf.length c1, .slice A2 path.length c2] w fun en w' => ∃ A c, en = .returned (.slice A (rootF a0 a2 a5 x 64 0 n leaf path).length c) ∧ (rootF a0 a2 a5 x 64 0 n leaf path).length ≤ c ∧ CB w' A (rootF a0 a2 a5 x 64 0 n leaf path) ∧ Below w.heap.size w w' := by
  have H1 := Aside0.mk h1
  have H2 := Aside0.mk h2
  have HX := Aside0.mk hx
  have HN := Aside0.mk hn
  have HP := Aside0.mk hpl
  have HQ := Aside0.mk hp
  have HC := Aside0.mk hpc
  have HS := Aside0.mk hps
  clear h1 h2 hx hn hpl hp hpc hps
  go_enter Try.func18, Try.ntmps18
  go_wp2_with (first
    | (go_at_call 23; (with_reducible refine (rootIn0 a0 a1 a2 a3 a4 a5 x n A1 c1 leaf hlf hlc A2 c2 path _ HX.out HN.out HP.out HQ.out HC.out HS.out (Kd.C_below H1.out (by repeat (first | exact Below.refl _ _ | apply below_alloc | apply pw_below_drewN | apply below_drew1))) (Kd.C_below H2.out (by repeat (first | exact Below.refl _ _ | apply below_alloc | apply pw_below_drewN | apply below_drew1)))).mono ?_); rintro e w1 ⟨A, c, rfl, hle, hC, hb⟩))
  go_ret
  exact ⟨_, _, rfl, hle, hC, below_then (below_alloc (Below.refl _ _) _) (by simp) hb⟩

/-- What the look tells: 0, 1 or 2. -/
def viS (a0 a1 a2 a5 : Int) (x n : Nat) (leaf : List Int) (path : List (List Int)) (root : List Int) : Int :=
  if n ≤ x then 2 else if (leaf.length : Int) ≠ a1 then 2 else if path.length ≠ vlen x n then 2 else if eqB (rootF a0 a2 a5 x 64 0 n leaf path) root then 0 else 1

set_option maxHeartbeats 1000000 in
set_option maxRecDepth 100000 in
theorem look_calls (a0 a1 a2 a3 a4 a5 : Int) (x n : Nat) (A1 : Option Addr) (c1 : Nat) (leaf : List Int) (hlf : leaf.length ≤ 5000) (hlc : leaf.length ≤ c1) (A2 : Option Addr) (c2 : Nat) (path : List (List Int)) (A3 : Option Addr) (c3 : Nat) (root : List Int) (w : World) (hn : n < 18446744073709551616) (hpc : path.length ≤ c2) (hrc : root.length ≤ c3) (hps : ∀ h ∈ path, h.length ≤ 5000) (h1 : CB w A1 leaf) (h2 : CL w A2 path) (h3 : CB w A3 root) :
    Calls Try.prog 9 #[.agg #[.int .i64 a0, .int .i64 a1, .int .i64 a2, .int .u64 a3, .int .u64 a4, .int .u64 a5], .int .u64 (x : Int), .int .u64 (n : Int), .slice A1 leaf.length c1, .slice A2 path.length c2, .slice A3 root.length c3] w fun en w' => ∃ v, en = .returned (.tuple #[.int .i64 (viS a0 a1 a2 a5 x n leaf path root), v]) ∧ Below w.heap.size w w' := by
  have H1 := Aside0.mk h1
  have H2 := Aside0.mk h2
  have H3 := Aside0.mk h3
  have HN := Aside0.mk hn
  have HS := Aside0.mk hps
  have HRC := Aside0.mk hrc
  clear h1 h2 h3 hn hps hrc
  unfold viS
  by_cases hx : n ≤ x
  · rw [if_pos hx]
    have t1 : decide (n ≤ x) = true := decide_eq_true hx
    clear hx
    go_enter Try.func9, Try.ntmps9
    go_wp2
    go_ret2
    exact ⟨_, rfl, below_alloc (Below.refl _ _) _⟩
  rw [if_neg hx]
  have t1 : decide (n ≤ x) = false := decide_eq_false hx
  have HX : Aside0 (x < n) := ⟨by omega⟩
  clear hx
  by_cases hl : (leaf.length : Int) ≠ a1
  · rw [if_pos hl]
    have t2 : ((leaf.length : Int) != a1) = true := bne_iff_ne.2 hl
    clear hl
    go_enter Try.func9, Try.ntmps9
    go_wp2
    go_ret2
    exact ⟨_, rfl, below_alloc (Below.refl _ _) _⟩
  rw [if_neg hl]
  have t2 : ((leaf.length : Int) != a1) = false := bne_eq_false_iff_eq.2 (by omega)
  clear hl
  obtain ⟨pp, hpp, hpl, _⟩ := path_go x 64 0 n 134 (Nat.le_refl _) (Nat.zero_le _) HX.out HN.out (by have := HN.out; omega) (by omega)
  rw [Nat.sub_zero, Nat.sub_zero] at hpl
  have hpf : spec_PathParts.f 134 (x : Int) (n : Int) = some pp := by
    unfold spec_PathParts.f
    rw [show (0 : Int) = ((0 : Nat) : Int) from rfl, hpp]
    rfl
  have HPF := Aside0.mk hpf
  clear hpp hpf
  by_cases hc : path.length ≠ vlen x n
  · rw [if_pos hc]
    have t3 : ((path.length : Int) != (pp.length : Int)) = true := bne_iff_ne.2 (by omega)
    clear hc hpl
    go_enter Try.func9, Try.ntmps9
    go_wp2_with (first
      | (go_at_call 12; (with_reducible refine (spec_PathParts.calls 134 _ _ pp _ HPF.out).mono ?_); rintro e w1 ⟨v, rfl, hR, hb⟩; obtain ⟨A, c, rfl, hle, _⟩ := Kd.R_reads hR; have HB := Aside0.mk hb; clear hR hb))
    go_ret2
    exact ⟨_, rfl, below_then (below_alloc (Below.refl _ _) _) (by simp) HB.out⟩
  rw [if_neg hc]
  have t3 : ((path.length : Int) != (pp.length : Int)) = false := bne_eq_false_iff_eq.2 (by omega)
  have HVL : Aside0 (path.length = vlen x n) := ⟨by omega⟩
  have HPP : Aside0 (path.length < 100) := ⟨by
    have h64 : vlen x n ≤ 64 := by omega
    omega⟩
  clear hc hpl
  have hrl := rootF_len a0 a2 a5 x 64 0 n leaf path HS.out
  have RF := fun (W : World) (hb : Below w.heap.size w W) => rootFrom_calls a0 a1 a2 a3 a4 a5 x n A1 c1 leaf hlf hlc A2 c2 path W HX.out HN.out HVL.out HPP.out hpc HS.out (Kd.C_below H1.out hb) (Kd.C_below H2.out hb)
  have RFH := Aside0.mk RF
  clear RF
  have fin : ∀ (b : Bool), spec_SameText.f (rootF a0 a2 a5 x 64 0 n leaf path) root = some b → Calls Try.prog 9 #[.agg #[.int .i64 a0, .int .i64 a1, .int .i64 a2, .int .u64 a3, .int .u64 a4, .int .u64 a5], .int .u64 (x : Int), .int .u64 (n : Int), .slice A1 leaf.length c1, .slice A2 path.length c2, .slice A3 root.length c3] w fun en w' => ∃ v, en = .returned (.tuple #[.int .i64 (if b = true then 0 else 1), v]) ∧ Below w.heap.size w w' := by
    intro b hb0
    have ST := Aside0.mk hb0
    clear hb0
    generalize rootF a0 a2 a5 x 64 0 n leaf path = rr at ST hrl RFH
    cases b
    all_goals
      go_enter Try.func9, Try.ntmps9
      go_wp2_with (first
        | (go_at_call 12; (with_reducible refine (spec_PathParts.calls 134 _ _ pp _ HPF.out).mono ?_); rintro e w1 ⟨v, rfl, hR, hb⟩; obtain ⟨A, c, rfl, hle, _⟩ := Kd.R_reads hR; obtain ⟨hc, hf⟩ := bcell hb; have hz : w.heap.size < w1.heap.size := (by have := hb.size; simp at this; omega); have HB := Aside0.mk (below_then (below_alloc (Below.refl _ _) _) (by simp) hb); clear hR hb)
        | (go_at_call 18; (with_reducible refine (RFH.out _ (by first | exact HB.out | exact pw_below_drewN HB.out _)).mono ?_); rintro e w2 ⟨A4, c4, rfl, hle4, hC4, hb⟩; have HB2 := Aside0.mk (below_then HB.out HB.out.size hb); have HC4 := Aside0.mk hC4; have HLE4 := Aside0.mk hle4; clear hb hC4 hle4)
        | (go_at_call 10; (with_reducible refine (spec_SameText.calls _ _ rr _ _ root _ _ HC4.out HLE4.out (Kd.C_below H3.out HB2.out) HRC.out ST.out).mono ?_); rintro e w3 ⟨rfl, hd⟩; have HB3 := Aside0.mk (below_then HB2.out HB2.out.size hd.below); clear hd))
      go_ret2
      first | exact ⟨⟨_, rfl⟩, HB3.out⟩ | exact ⟨_, rfl, HB3.out⟩
  by_cases heq : eqB (rootF a0 a2 a5 x 64 0 n leaf path) root = true
  · rw [if_pos heq]
    exact fin true (by rw [← heq]; rfl)
  · rw [if_neg heq]
    exact fin false (by rw [← (show eqB (rootF a0 a2 a5 x 64 0 n leaf path) root = false by simpa using heq)]; rfl)
end Go.Proofs.Ytfhcpniibiobgaa.Qg
namespace Go.Proofs.Ytfhcpniibiobgaa.Qg
open Go.RowKit Go.Proofs.YtfhcpniibiobgaaW.PrintWords Go.Proofs.YtfhcpniibiobgaaW.PrintLast Go.Proofs.YtfhcpniibiobgaaW.PrintMore
open Hs (CB CL at_L at_B infoB infoL R_of_blk bcell)

theorem box6 {w : World} {g : Nat} {a0 a1 a2 a3 a4 a5 : Int} (h : w.heap[g]? = some (.cells #[.int .i64 a0, .int .i64 a1, .int .i64 a2, .int .u64 a3, .int .u64 a4, .int .u64 a5] 24 (0, 0))) : w.cell? ⟨g, 0, none⟩ = some (.int .i64 a0) ∧ w.cell? ⟨g, 1, none⟩ = some (.int .i64 a1) ∧ w.cell? ⟨g, 2, none⟩ = some (.int .i64 a2) ∧ w.cell? ⟨g, 3, none⟩ = some (.int .u64 a3) ∧ w.cell? ⟨g, 4, none⟩ = some (.int .u64 a4) ∧ w.cell? ⟨g, 5, none⟩ = some (.int .u64 a5) :=
  ⟨(blk_cell h 0).trans rfl, (blk_cell h 1).trans rfl, (blk_cell h 2).trans rfl, (blk_cell h 3).trans rfl, (blk_cell h 4).trans rfl, (blk_cell h 5).trans rfl⟩

set_option maxHeartbeats 2000000 in
set_option maxRecDepth 100000 in
theorem way1 (K : Nat) (a0 a1 a2 a3 a4 a5 : Int) (x n : Nat) (A3 : Option Addr) (c3 : Nat) (b3 : List Int) (A4 : Option Addr) (c4 : Nat) (b4 : List (List Int)) (A5 : Option Addr) (c5 : Nat) (b5 : List Int) (A6 : Option Addr) (c6 : Nat) (b6 : List (List Int)) (A7 : Option Addr) (c7 : Nat) (b7 : List Int) (w : World) (h3 : CB w A3 b3) (e3 : b3.length ≤ c3) (h4 : CL w A4 b4) (e4 : b4.length ≤ c4) (h5 : CB w A5 b5) (e5 : b5.length ≤ c5) (h6 : CL w A6 b6) (e6 : b6.length ≤ c6) (h7 : CB w A7 b7) (e7 : b7.length ≤ c7) (t3 : decide (2147483647 < (b3.length : Int)) = true) :
    Calls Try.prog 3 #[.agg #[.int .i64 a0, .int .i64 a1, .int .i64 a2, .int .u64 a3, .int .u64 a4, .int .u64 a5], .int .u64 (x : Int), .int .u64 (n : Int), .slice A3 b3.length c3, .slice A4 b4.length c4, .slice A5 b5.length c5, .slice A6 b6.length c6, .slice A7 b7.length c7] w fun e w' => e = .returned (.bool true) ∧ Below w.heap.size w w' := by
  have h3_ := Aside0.mk h3
  have h4_ := Aside0.mk h4
  have h5_ := Aside0.mk h5
  have h6_ := Aside0.mk h6
  have h7_ := Aside0.mk h7
  clear h3 h4 h5 h6 h7
  have _u := And.intro e3 (And.intro e4 (And.intro e5 (And.intro e6 (And.intro e7 (Eq.refl K)))))
  clear _u
  have HB := Aside0.mk (below_alloc (Below.refl w.heap.size w) (.cells #[.int .i64 a0, .int .i64 a1, .int .i64 a2, .int .u64 a3, .int .u64 a4, .int .u64 a5] 24))
  have HX := Aside0.mk (heap_alloc_new w (.cells #[.int .i64 a0, .int .i64 a1, .int .i64 a2, .int .u64 a3, .int .u64 a4, .int .u64 a5] 24))
  go_enter Try.func3, Try.ntmps3
  go_wp2_with fail
  go_wp2
  go_ret
  exact ⟨rfl, HB.out⟩

set_option maxHeartbeats 2000000 in
set_option maxRecDepth 100000 in
theorem way2 (K : Nat) (a0 a1 a2 a3 a4 a5 : Int) (x n : Nat) (A3 : Option Addr) (c3 : Nat) (b3 : List Int) (A4 : Option Addr) (c4 : Nat) (b4 : List (List Int)) (A5 : Option Addr) (c5 : Nat) (b5 : List Int) (A6 : Option Addr) (c6 : Nat) (b6 : List (List Int)) (A7 : Option Addr) (c7 : Nat) (b7 : List Int) (w : World) (h3 : CB w A3 b3) (e3 : b3.length ≤ c3) (h4 : CL w A4 b4) (e4 : b4.length ≤ c4) (h5 : CB w A5 b5) (e5 : b5.length ≤ c5) (h6 : CL w A6 b6) (e6 : b6.length ≤ c6) (h7 : CB w A7 b7) (e7 : b7.length ≤ c7) (t3 : decide (2147483647 < (b3.length : Int)) = false) (z4 : laws_zzFits2.f K b4 = some false) :
    Calls Try.prog 3 #[.agg #[.int .i64 a0, .int .i64 a1, .int .i64 a2, .int .u64 a3, .int .u64 a4, .int .u64 a5], .int .u64 (x : Int), .int .u64 (n : Int), .slice A3 b3.length c3, .slice A4 b4.length c4, .slice A5 b5.length c5, .slice A6 b6.length c6, .slice A7 b7.length c7] w fun e w' => e = .returned (.bool true) ∧ Below w.heap.size w w' := by
  have h3_ := Aside0.mk h3
  have h4_ := Aside0.mk h4
  have h5_ := Aside0.mk h5
  have h6_ := Aside0.mk h6
  have h7_ := Aside0.mk h7
  clear h3 h4 h5 h6 h7
  have _u := And.intro e3 (And.intro e4 (And.intro e5 (And.intro e6 (And.intro e7 (Eq.refl K)))))
  clear _u
  have Z4 := Aside0.mk z4
  clear z4
  have HB := Aside0.mk (below_alloc (Below.refl w.heap.size w) (.cells #[.int .i64 a0, .int .i64 a1, .int .i64 a2, .int .u64 a3, .int .u64 a4, .int .u64 a5] 24))
  have HX := Aside0.mk (heap_alloc_new w (.cells #[.int .i64 a0, .int .i64 a1, .int .i64 a2, .int .u64 a3, .int .u64 a4, .int .u64 a5] 24))
  go_enter Try.func3, Try.ntmps3
  go_wp2_with fail
  go_wp2_with (first
    | (go_at_call 5; (with_reducible refine (laws_zzFits2.calls K _ _ b4 _ _ (Kd.C_below h4_.out HB.out) e4 Z4.out).mono ?_); rintro e w1 ⟨rfl, hd⟩; have hb := hd.below; clear hd; have HB1 := Aside0.mk (below_then HB.out HB.out.size hb); have HX1 := Aside0.mk (blk_below HX.out hb); clear HB HX hb; have HB := HB1; have HX := HX1; clear HB1 HX1; (try clear hk0 hk1 hk2 hk3 hk4 hk5); obtain ⟨hk0, hk1, hk2, hk3, hk4, hk5⟩ := box6 HX.out))
  go_ret
  exact ⟨rfl, HB.out⟩

set_option maxHeartbeats 2000000 in
set_option maxRecDepth 100000 in
theorem way3 (K : Nat) (a0 a1 a2 a3 a4 a5 : Int) (x n : Nat) (A3 : Option Addr) (c3 : Nat) (b3 : List Int) (A4 : Option Addr) (c4 : Nat) (b4 : List (List Int)) (A5 : Option Addr) (c5 : Nat) (b5 : List Int) (A6 : Option Addr) (c6 : Nat) (b6 : List (List Int)) (A7 : Option Addr) (c7 : Nat) (b7 : List Int) (w : World) (h3 : CB w A3 b3) (e3 : b3.length ≤ c3) (h4 : CL w A4 b4) (e4 : b4.length ≤ c4) (h5 : CB w A5 b5) (e5 : b5.length ≤ c5) (h6 : CL w A6 b6) (e6 : b6.length ≤ c6) (h7 : CB w A7 b7) (e7 : b7.length ≤ c7) (t3 : decide (2147483647 < (b3.length : Int)) = false) (z4 : laws_zzFits2.f K b4 = some true) (t5 : decide (2147483647 < (b5.length : Int)) = true) :
    Calls Try.prog 3 #[.agg #[.int .i64 a0, .int .i64 a1, .int .i64 a2, .int .u64 a3, .int .u64 a4, .int .u64 a5], .int .u64 (x : Int), .int .u64 (n : Int), .slice A3 b3.length c3, .slice A4 b4.length c4, .slice A5 b5.length c5, .slice A6 b6.length c6, .slice A7 b7.length c7] w fun e w' => e = .returned (.bool true) ∧ Below w.heap.size w w' := by
  have h3_ := Aside0.mk h3
  have h4_ := Aside0.mk h4
  have h5_ := Aside0.mk h5
  have h6_ := Aside0.mk h6
  have h7_ := Aside0.mk h7
  clear h3 h4 h5 h6 h7
  have _u := And.intro e3 (And.intro e4 (And.intro e5 (And.intro e6 (And.intro e7 (Eq.refl K)))))
  clear _u
  have Z4 := Aside0.mk z4
  clear z4
  have HB := Aside0.mk (below_alloc (Below.refl w.heap.size w) (.cells #[.int .i64 a0, .int .i64 a1, .int .i64 a2, .int .u64 a3, .int .u64 a4, .int .u64 a5] 24))
  have HX := Aside0.mk (heap_alloc_new w (.cells #[.int .i64 a0, .int .i64 a1, .int .i64 a2, .int .u64 a3, .int .u64 a4, .int .u64 a5] 24))
  go_enter Try.func3, Try.ntmps3
  go_wp2_with fail
  go_wp2_with (first
    | (go_at_call 5; (with_reducible refine (laws_zzFits2.calls K _ _ b4 _ _ (Kd.C_below h4_.out HB.out) e4 Z4.out).mono ?_); rintro e w1 ⟨rfl, hd⟩; have hb := hd.below; clear hd; have HB1 := Aside0.mk (below_then HB.out HB.out.size hb); have HX1 := Aside0.mk (blk_below HX.out hb); clear HB HX hb; have HB := HB1; have HX := HX1; clear HB1 HX1; (try clear hk0 hk1 hk2 hk3 hk4 hk5); obtain ⟨hk0, hk1, hk2, hk3, hk4, hk5⟩ := box6 HX.out))
  go_ret
  exact ⟨rfl, HB.out⟩

set_option maxHeartbeats 2000000 in
set_option maxRecDepth 100000 in
theorem way4 (K : Nat) (a0 a1 a2 a3 a4 a5 : Int) (x n : Nat) (A3 : Option Addr) (c3 : Nat) (b3 : List Int) (A4 : Option Addr) (c4 : Nat) (b4 : List (List Int)) (A5 : Option Addr) (c5 : Nat) (b5 : List Int) (A6 : Option Addr) (c6 : Nat) (b6 : List (List Int)) (A7 : Option Addr) (c7 : Nat) (b7 : List Int) (w : World) (h3 : CB w A3 b3) (e3 : b3.length ≤ c3) (h4 : CL w A4 b4) (e4 : b4.length ≤ c4) (h5 : CB w A5 b5) (e5 : b5.length ≤ c5) (h6 : CL w A6 b6) (e6 : b6.length ≤ c6) (h7 : CB w A7 b7) (e7 : b7.length ≤ c7) (t3 : decide (2147483647 < (b3.length : Int)) = false) (z4 : laws_zzFits2.f K b4 = some true) (t5 : decide (2147483647 < (b5.length : Int)) = false) (z6 : laws_zzFits2.f K b6 = some false) :
    Calls Try.prog 3 #[.agg #[.int .i64 a0, .int .i64 a1, .int .i64 a2, .int .u64 a3, .int .u64 a4, .int .u64 a5], .int .u64 (x : Int), .int .u64 (n : Int), .slice A3 b3.length c3, .slice A4 b4.length c4, .slice A5 b5.length c5, .slice A6 b6.length c6, .slice A7 b7.length c7] w fun e w' => e = .returned (.bool true) ∧ Below w.heap.size w w' := by
  have h3_ := Aside0.mk h3
  have h4_ := Aside0.mk h4
  have h5_ := Aside0.mk h5
  have h6_ := Aside0.mk h6
  have h7_ := Aside0.mk h7
  clear h3 h4 h5 h6 h7
  have _u := And.intro e3 (And.intro e4 (And.intro e5 (And.intro e6 (And.intro e7 (Eq.refl K)))))
  clear _u
  have Z4 := Aside0.mk z4
  clear z4
  have Z6 := Aside0.mk z6
  clear z6
  have HB := Aside0.mk (below_alloc (Below.refl w.heap.size w) (.cells #[.int .i64 a0, .int .i64 a1, .int .i64 a2, .int .u64 a3, .int .u64 a4, .int .u64 a5] 24))
  have HX := Aside0.mk (heap_alloc_new w (.cells #[.int .i64 a0, .int .i64 a1, .int .i64 a2, .int .u64 a3, .int .u64 a4, .int .u64 a5] 24))
  go_enter Try.func3, Try.ntmps3
  go_wp2_with fail
  go_wp2_with (first
    | (go_at_call 5; (with_reducible refine (laws_zzFits2.calls K _ _ b4 _ _ (Kd.C_below h4_.out HB.out) e4 Z4.out).mono ?_); rintro e w1 ⟨rfl, hd⟩; have hb := hd.below; clear hd; have HB1 := Aside0.mk (below_then HB.out HB.out.size hb); have HX1 := Aside0.mk (blk_below HX.out hb); clear HB HX hb; have HB := HB1; have HX := HX1; clear HB1 HX1; (try clear hk0 hk1 hk2 hk3 hk4 hk5); obtain ⟨hk0, hk1, hk2, hk3, hk4, hk5⟩ := box6 HX.out)
    | (go_at_call 5; (with_reducible refine (laws_zzFits2.calls K _ _ b6 _ _ (Kd.C_below h6_.out HB.out) e6 Z6.out).mono ?_); rintro e w2 ⟨rfl, hd⟩; have hb := hd.below; clear hd; have HB1 := Aside0.mk (below_then HB.out HB.out.size hb); have HX1 := Aside0.mk (blk_below HX.out hb); clear HB HX hb; have HB := HB1; have HX := HX1; clear HB1 HX1; (try clear hk0 hk1 hk2 hk3 hk4 hk5); obtain ⟨hk0, hk1, hk2, hk3, hk4, hk5⟩ := box6 HX.out))
  go_ret
  exact ⟨rfl, HB.out⟩

set_option maxHeartbeats 2000000 in
set_option maxRecDepth 100000 in
theorem way5 (K : Nat) (a0 a1 a2 a3 a4 a5 : Int) (x n : Nat) (A3 : Option Addr) (c3 : Nat) (b3 : List Int) (A4 : Option Addr) (c4 : Nat) (b4 : List (List Int)) (A5 : Option Addr) (c5 : Nat) (b5 : List Int) (A6 : Option Addr) (c6 : Nat) (b6 : List (List Int)) (A7 : Option Addr) (c7 : Nat) (b7 : List Int) (w : World) (h3 : CB w A3 b3) (e3 : b3.length ≤ c3) (h4 : CL w A4 b4) (e4 : b4.length ≤ c4) (h5 : CB w A5 b5) (e5 : b5.length ≤ c5) (h6 : CL w A6 b6) (e6 : b6.length ≤ c6) (h7 : CB w A7 b7) (e7 : b7.length ≤ c7) (t3 : decide (2147483647 < (b3.length : Int)) = false) (z4 : laws_zzFits2.f K b4 = some true) (t5 : decide (2147483647 < (b5.length : Int)) = false) (z6 : laws_zzFits2.f K b6 = some true) (t7 : decide (2147483647 < (b7.length : Int)) = true) :
    Calls Try.prog 3 #[.agg #[.int .i64 a0, .int .i64 a1, .int .i64 a2, .int .u64 a3, .int .u64 a4, .int .u64 a5], .int .u64 (x : Int), .int .u64 (n : Int), .slice A3 b3.length c3, .slice A4 b4.length c4, .slice A5 b5.length c5, .slice A6 b6.length c6, .slice A7 b7.length c7] w fun e w' => e = .returned (.bool true) ∧ Below w.heap.size w w' := by
  have h3_ := Aside0.mk h3
  have h4_ := Aside0.mk h4
  have h5_ := Aside0.mk h5
  have h6_ := Aside0.mk h6
  have h7_ := Aside0.mk h7
  clear h3 h4 h5 h6 h7
  have _u := And.intro e3 (And.intro e4 (And.intro e5 (And.intro e6 (And.intro e7 (Eq.refl K)))))
  clear _u
  have Z4 := Aside0.mk z4
  clear z4
  have Z6 := Aside0.mk z6
  clear z6
  have HB := Aside0.mk (below_alloc (Below.refl w.heap.size w) (.cells #[.int .i64 a0, .int .i64 a1, .int .i64 a2, .int .u64 a3, .int .u64 a4, .int .u64 a5] 24))
  have HX := Aside0.mk (heap_alloc_new w (.cells #[.int .i64 a0, .int .i64 a1, .int .i64 a2, .int .u64 a3, .int .u64 a4, .int .u64 a5] 24))
  go_enter Try.func3, Try.ntmps3
  go_wp2_with fail
  go_wp2_with (first
    | (go_at_call 5; (with_reducible refine (laws_zzFits2.calls K _ _ b4 _ _ (Kd.C_below h4_.out HB.out) e4 Z4.out).mono ?_); rintro e w1 ⟨rfl, hd⟩; have hb := hd.below; clear hd; have HB1 := Aside0.mk (below_then HB.out HB.out.size hb); have HX1 := Aside0.mk (blk_below HX.out hb); clear HB HX hb; have HB := HB1; have HX := HX1; clear HB1 HX1; (try clear hk0 hk1 hk2 hk3 hk4 hk5); obtain ⟨hk0, hk1, hk2, hk3, hk4, hk5⟩ := box6 HX.out)
    | (go_at_call 5; (with_reducible refine (laws_zzFits2.calls K _ _ b6 _ _ (Kd.C_below h6_.out HB.out) e6 Z6.out).mono ?_); rintro e w2 ⟨rfl, hd⟩; have hb := hd.below; clear hd; have HB1 := Aside0.mk (below_then HB.out HB.out.size hb); have HX1 := Aside0.mk (blk_below HX.out hb); clear HB HX hb; have HB := HB1; have HX := HX1; clear HB1 HX1; (try clear hk0 hk1 hk2 hk3 hk4 hk5); obtain ⟨hk0, hk1, hk2, hk3, hk4, hk5⟩ := box6 HX.out))
  go_ret
  exact ⟨rfl, HB.out⟩

set_option maxHeartbeats 2000000 in
set_option maxRecDepth 100000 in
theorem way6 (K : Nat) (a0 a1 a2 a3 a4 a5 : Int) (x n : Nat) (A3 : Option Addr) (c3 : Nat) (b3 : List Int) (A4 : Option Addr) (c4 : Nat) (b4 : List (List Int)) (A5 : Option Addr) (c5 : Nat) (b5 : List Int) (A6 : Option Addr) (c6 : Nat) (b6 : List (List Int)) (A7 : Option Addr) (c7 : Nat) (b7 : List Int) (w : World) (h3 : CB w A3 b3) (e3 : b3.length ≤ c3) (h4 : CL w A4 b4) (e4 : b4.length ≤ c4) (h5 : CB w A5 b5) (e5 : b5.length ≤ c5) (h6 : CL w A6 b6) (e6 : b6.length ≤ c6) (h7 : CB w A7 b7) (e7 : b7.length ≤ c7) (t3 : decide (2147483647 < (b3.length : Int)) = false) (z4 : laws_zzFits2.f K b4 = some true) (t5 : decide (2147483647 < (b5.length : Int)) = false) (z6 : laws_zzFits2.f K b6 = some true) (t7 : decide (2147483647 < (b7.length : Int)) = false) (tt : spec_Terms.f a0 a1 a2 a3 a4 a5 = some false) :
    Calls Try.prog 3 #[.agg #[.int .i64 a0, .int .i64 a1, .int .i64 a2, .int .u64 a3, .int .u64 a4, .int .u64 a5], .int .u64 (x : Int), .int .u64 (n : Int), .slice A3 b3.length c3, .slice A4 b4.length c4, .slice A5 b5.length c5, .slice A6 b6.length c6, .slice A7 b7.length c7] w fun e w' => e = .returned (.bool true) ∧ Below w.heap.size w w' := by
  have h3_ := Aside0.mk h3
  have h4_ := Aside0.mk h4
  have h5_ := Aside0.mk h5
  have h6_ := Aside0.mk h6
  have h7_ := Aside0.mk h7
  clear h3 h4 h5 h6 h7
  have _u := And.intro e3 (And.intro e4 (And.intro e5 (And.intro e6 (And.intro e7 (Eq.refl K)))))
  clear _u
  have Z4 := Aside0.mk z4
  clear z4
  have Z6 := Aside0.mk z6
  clear z6
  have TT := Aside0.mk tt
  clear tt
  have HB := Aside0.mk (below_alloc (Below.refl w.heap.size w) (.cells #[.int .i64 a0, .int .i64 a1, .int .i64 a2, .int .u64 a3, .int .u64 a4, .int .u64 a5] 24))
  have HX := Aside0.mk (heap_alloc_new w (.cells #[.int .i64 a0, .int .i64 a1, .int .i64 a2, .int .u64 a3, .int .u64 a4, .int .u64 a5] 24))
  go_enter Try.func3, Try.ntmps3
  go_wp2_with fail
  go_wp2_with (first
    | (go_at_call 5; (with_reducible refine (laws_zzFits2.calls K _ _ b4 _ _ (Kd.C_below h4_.out HB.out) e4 Z4.out).mono ?_); rintro e w1 ⟨rfl, hd⟩; have hb := hd.below; clear hd; have HB1 := Aside0.mk (below_then HB.out HB.out.size hb); have HX1 := Aside0.mk (blk_below HX.out hb); clear HB HX hb; have HB := HB1; have HX := HX1; clear HB1 HX1; (try clear hk0 hk1 hk2 hk3 hk4 hk5); obtain ⟨hk0, hk1, hk2, hk3, hk4, hk5⟩ := box6 HX.out)
    | (go_at_call 5; (with_reducible refine (laws_zzFits2.calls K _ _ b6 _ _ (Kd.C_below h6_.out HB.out) e6 Z6.out).mono ?_); rintro e w2 ⟨rfl, hd⟩; have hb := hd.below; clear hd; have HB1 := Aside0.mk (below_then HB.out HB.out.size hb); have HX1 := Aside0.mk (blk_below HX.out hb); clear HB HX hb; have HB := HB1; have HX := HX1; clear HB1 HX1; (try clear hk0 hk1 hk2 hk3 hk4 hk5); obtain ⟨hk0, hk1, hk2, hk3, hk4, hk5⟩ := box6 HX.out)
    | (go_at_call 6; (with_reducible refine (spec_Terms.calls a0 a1 a2 a3 a4 a5 _ _ TT.out).mono ?_); rintro e w3 ⟨rfl, hb⟩; have HB1 := Aside0.mk (below_then HB.out HB.out.size hb); have HX1 := Aside0.mk (blk_below HX.out hb); clear HB HX hb; have HB := HB1; have HX := HX1; clear HB1 HX1; (try clear hk0 hk1 hk2 hk3 hk4 hk5); obtain ⟨hk0, hk1, hk2, hk3, hk4, hk5⟩ := box6 HX.out))
  go_ret
  exact ⟨rfl, HB.out⟩

set_option maxHeartbeats 2000000 in
set_option maxRecDepth 100000 in
theorem way7 (K : Nat) (a0 a1 a2 a3 a4 a5 : Int) (x n : Nat) (A3 : Option Addr) (c3 : Nat) (b3 : List Int) (A4 : Option Addr) (c4 : Nat) (b4 : List (List Int)) (A5 : Option Addr) (c5 : Nat) (b5 : List Int) (A6 : Option Addr) (c6 : Nat) (b6 : List (List Int)) (A7 : Option Addr) (c7 : Nat) (b7 : List Int) (w : World) (h3 : CB w A3 b3) (e3 : b3.length ≤ c3) (h4 : CL w A4 b4) (e4 : b4.length ≤ c4) (h5 : CB w A5 b5) (e5 : b5.length ≤ c5) (h6 : CL w A6 b6) (e6 : b6.length ≤ c6) (h7 : CB w A7 b7) (e7 : b7.length ≤ c7) (t3 : decide (2147483647 < (b3.length : Int)) = false) (z4 : laws_zzFits2.f K b4 = some true) (t5 : decide (2147483647 < (b5.length : Int)) = false) (z6 : laws_zzFits2.f K b6 = some true) (t7 : decide (2147483647 < (b7.length : Int)) = false) (tt : spec_Terms.f a0 a1 a2 a3 a4 a5 = some true) (p4 : laws_logSmall.f K b4 = some false) :
    Calls Try.prog 3 #[.agg #[.int .i64 a0, .int .i64 a1, .int .i64 a2, .int .u64 a3, .int .u64 a4, .int .u64 a5], .int .u64 (x : Int), .int .u64 (n : Int), .slice A3 b3.length c3, .slice A4 b4.length c4, .slice A5 b5.length c5, .slice A6 b6.length c6, .slice A7 b7.length c7] w fun e w' => e = .returned (.bool true) ∧ Below w.heap.size w w' := by
  have h3_ := Aside0.mk h3
  have h4_ := Aside0.mk h4
  have h5_ := Aside0.mk h5
  have h6_ := Aside0.mk h6
  have h7_ := Aside0.mk h7
  clear h3 h4 h5 h6 h7
  have _u := And.intro e3 (And.intro e4 (And.intro e5 (And.intro e6 (And.intro e7 (Eq.refl K)))))
  clear _u
  have Z4 := Aside0.mk z4
  clear z4
  have Z6 := Aside0.mk z6
  clear z6
  have TT := Aside0.mk tt
  clear tt
  have P4 := Aside0.mk p4
  clear p4
  have HB := Aside0.mk (below_alloc (Below.refl w.heap.size w) (.cells #[.int .i64 a0, .int .i64 a1, .int .i64 a2, .int .u64 a3, .int .u64 a4, .int .u64 a5] 24))
  have HX := Aside0.mk (heap_alloc_new w (.cells #[.int .i64 a0, .int .i64 a1, .int .i64 a2, .int .u64 a3, .int .u64 a4, .int .u64 a5] 24))
  go_enter Try.func3, Try.ntmps3
  go_wp2_with fail
  go_wp2_with (first
    | (go_at_call 5; (with_reducible refine (laws_zzFits2.calls K _ _ b4 _ _ (Kd.C_below h4_.out HB.out) e4 Z4.out).mono ?_); rintro e w1 ⟨rfl, hd⟩; have hb := hd.below; clear hd; have HB1 := Aside0.mk (below_then HB.out HB.out.size hb); have HX1 := Aside0.mk (blk_below HX.out hb); clear HB HX hb; have HB := HB1; have HX := HX1; clear HB1 HX1; (try clear hk0 hk1 hk2 hk3 hk4 hk5); obtain ⟨hk0, hk1, hk2, hk3, hk4, hk5⟩ := box6 HX.out)
    | (go_at_call 5; (with_reducible refine (laws_zzFits2.calls K _ _ b6 _ _ (Kd.C_below h6_.out HB.out) e6 Z6.out).mono ?_); rintro e w2 ⟨rfl, hd⟩; have hb := hd.below; clear hd; have HB1 := Aside0.mk (below_then HB.out HB.out.size hb); have HX1 := Aside0.mk (blk_below HX.out hb); clear HB HX hb; have HB := HB1; have HX := HX1; clear HB1 HX1; (try clear hk0 hk1 hk2 hk3 hk4 hk5); obtain ⟨hk0, hk1, hk2, hk3, hk4, hk5⟩ := box6 HX.out)
    | (go_at_call 6; (with_reducible refine (spec_Terms.calls a0 a1 a2 a3 a4 a5 _ _ TT.out).mono ?_); rintro e w3 ⟨rfl, hb⟩; have HB1 := Aside0.mk (below_then HB.out HB.out.size hb); have HX1 := Aside0.mk (blk_below HX.out hb); clear HB HX hb; have HB := HB1; have HX := HX1; clear HB1 HX1; (try clear hk0 hk1 hk2 hk3 hk4 hk5); obtain ⟨hk0, hk1, hk2, hk3, hk4, hk5⟩ := box6 HX.out)
    | (go_at_call 7; (with_reducible refine (laws_logSmall.calls K _ _ b4 _ _ (Kd.C_below h4_.out HB.out) e4 P4.out).mono ?_); rintro e w4 ⟨rfl, hd⟩; have hb := hd.below; clear hd; have HB1 := Aside0.mk (below_then HB.out HB.out.size hb); have HX1 := Aside0.mk (blk_below HX.out hb); clear HB HX hb; have HB := HB1; have HX := HX1; clear HB1 HX1; (try clear hk0 hk1 hk2 hk3 hk4 hk5); obtain ⟨hk0, hk1, hk2, hk3, hk4, hk5⟩ := box6 HX.out))
  go_ret
  exact ⟨rfl, HB.out⟩

set_option maxHeartbeats 2000000 in
set_option maxRecDepth 100000 in
theorem way8 (K : Nat) (a0 a1 a2 a3 a4 a5 : Int) (x n : Nat) (A3 : Option Addr) (c3 : Nat) (b3 : List Int) (A4 : Option Addr) (c4 : Nat) (b4 : List (List Int)) (A5 : Option Addr) (c5 : Nat) (b5 : List Int) (A6 : Option Addr) (c6 : Nat) (b6 : List (List Int)) (A7 : Option Addr) (c7 : Nat) (b7 : List Int) (w : World) (h3 : CB w A3 b3) (e3 : b3.length ≤ c3) (h4 : CL w A4 b4) (e4 : b4.length ≤ c4) (h5 : CB w A5 b5) (e5 : b5.length ≤ c5) (h6 : CL w A6 b6) (e6 : b6.length ≤ c6) (h7 : CB w A7 b7) (e7 : b7.length ≤ c7) (t3 : decide (2147483647 < (b3.length : Int)) = false) (z4 : laws_zzFits2.f K b4 = some true) (t5 : decide (2147483647 < (b5.length : Int)) = false) (z6 : laws_zzFits2.f K b6 = some true) (t7 : decide (2147483647 < (b7.length : Int)) = false) (tt : spec_Terms.f a0 a1 a2 a3 a4 a5 = some true) (p4 : laws_logSmall.f K b4 = some true) (p6 : laws_logSmall.f K b6 = some false) :
    Calls Try.prog 3 #[.agg #[.int .i64 a0, .int .i64 a1, .int .i64 a2, .int .u64 a3, .int .u64 a4, .int .u64 a5], .int .u64 (x : Int), .int .u64 (n : Int), .slice A3 b3.length c3, .slice A4 b4.length c4, .slice A5 b5.length c5, .slice A6 b6.length c6, .slice A7 b7.length c7] w fun e w' => e = .returned (.bool true) ∧ Below w.heap.size w w' := by
  have h3_ := Aside0.mk h3
  have h4_ := Aside0.mk h4
  have h5_ := Aside0.mk h5
  have h6_ := Aside0.mk h6
  have h7_ := Aside0.mk h7
  clear h3 h4 h5 h6 h7
  have _u := And.intro e3 (And.intro e4 (And.intro e5 (And.intro e6 (And.intro e7 (Eq.refl K)))))
  clear _u
  have Z4 := Aside0.mk z4
  clear z4
  have Z6 := Aside0.mk z6
  clear z6
  have TT := Aside0.mk tt
  clear tt
  have P4 := Aside0.mk p4
  clear p4
  have P6 := Aside0.mk p6
  clear p6
  have HB := Aside0.mk (below_alloc (Below.refl w.heap.size w) (.cells #[.int .i64 a0, .int .i64 a1, .int .i64 a2, .int .u64 a3, .int .u64 a4, .int .u64 a5] 24))
  have HX := Aside0.mk (heap_alloc_new w (.cells #[.int .i64 a0, .int .i64 a1, .int .i64 a2, .int .u64 a3, .int .u64 a4, .int .u64 a5] 24))
  go_enter Try.func3, Try.ntmps3
  go_wp2_with fail
  go_wp2_with (first
    | (go_at_call 5; (with_reducible refine (laws_zzFits2.calls K _ _ b4 _ _ (Kd.C_below h4_.out HB.out) e4 Z4.out).mono ?_); rintro e w1 ⟨rfl, hd⟩; have hb := hd.below; clear hd; have HB1 := Aside0.mk (below_then HB.out HB.out.size hb); have HX1 := Aside0.mk (blk_below HX.out hb); clear HB HX hb; have HB := HB1; have HX := HX1; clear HB1 HX1; (try clear hk0 hk1 hk2 hk3 hk4 hk5); obtain ⟨hk0, hk1, hk2, hk3, hk4, hk5⟩ := box6 HX.out)
    | (go_at_call 5; (with_reducible refine (laws_zzFits2.calls K _ _ b6 _ _ (Kd.C_below h6_.out HB.out) e6 Z6.out).mono ?_); rintro e w2 ⟨rfl, hd⟩; have hb := hd.below; clear hd; have HB1 := Aside0.mk (below_then HB.out HB.out.size hb); have HX1 := Aside0.mk (blk_below HX.out hb); clear HB HX hb; have HB := HB1; have HX := HX1; clear HB1 HX1; (try clear hk0 hk1 hk2 hk3 hk4 hk5); obtain ⟨hk0, hk1, hk2, hk3, hk4, hk5⟩ := box6 HX.out)
    | (go_at_call 6; (with_reducible refine (spec_Terms.calls a0 a1 a2 a3 a4 a5 _ _ TT.out).mono ?_); rintro e w3 ⟨rfl, hb⟩; have HB1 := Aside0.mk (below_then HB.out HB.out.size hb); have HX1 := Aside0.mk (blk_below HX.out hb); clear HB HX hb; have HB := HB1; have HX := HX1; clear HB1 HX1; (try clear hk0 hk1 hk2 hk3 hk4 hk5); obtain ⟨hk0, hk1, hk2, hk3, hk4, hk5⟩ := box6 HX.out)
    | (go_at_call 7; (with_reducible refine (laws_logSmall.calls K _ _ b4 _ _ (Kd.C_below h4_.out HB.out) e4 P4.out).mono ?_); rintro e w4 ⟨rfl, hd⟩; have hb := hd.below; clear hd; have HB1 := Aside0.mk (below_then HB.out HB.out.size hb); have HX1 := Aside0.mk (blk_below HX.out hb); clear HB HX hb; have HB := HB1; have HX := HX1; clear HB1 HX1; (try clear hk0 hk1 hk2 hk3 hk4 hk5); obtain ⟨hk0, hk1, hk2, hk3, hk4, hk5⟩ := box6 HX.out)
    | (go_at_call 7; (with_reducible refine (laws_logSmall.calls K _ _ b6 _ _ (Kd.C_below h6_.out HB.out) e6 P6.out).mono ?_); rintro e w5 ⟨rfl, hd⟩; have hb := hd.below; clear hd; have HB1 := Aside0.mk (below_then HB.out HB.out.size hb); have HX1 := Aside0.mk (blk_below HX.out hb); clear HB HX hb; have HB := HB1; have HX := HX1; clear HB1 HX1; (try clear hk0 hk1 hk2 hk3 hk4 hk5); obtain ⟨hk0, hk1, hk2, hk3, hk4, hk5⟩ := box6 HX.out))
  go_ret
  exact ⟨rfl, HB.out⟩

set_option maxHeartbeats 2000000 in
set_option maxRecDepth 100000 in
theorem way9 (K : Nat) (a0 a1 a2 a3 a4 a5 : Int) (x n : Nat) (A3 : Option Addr) (c3 : Nat) (b3 : List Int) (A4 : Option Addr) (c4 : Nat) (b4 : List (List Int)) (A5 : Option Addr) (c5 : Nat) (b5 : List Int) (A6 : Option Addr) (c6 : Nat) (b6 : List (List Int)) (A7 : Option Addr) (c7 : Nat) (b7 : List Int) (w : World) (h3 : CB w A3 b3) (e3 : b3.length ≤ c3) (h4 : CL w A4 b4) (e4 : b4.length ≤ c4) (h5 : CB w A5 b5) (e5 : b5.length ≤ c5) (h6 : CL w A6 b6) (e6 : b6.length ≤ c6) (h7 : CB w A7 b7) (e7 : b7.length ≤ c7) (t3 : decide (2147483647 < (b3.length : Int)) = false) (z4 : laws_zzFits2.f K b4 = some true) (t5 : decide (2147483647 < (b5.length : Int)) = false) (z6 : laws_zzFits2.f K b6 = some true) (t7 : decide (2147483647 < (b7.length : Int)) = false) (tt : spec_Terms.f a0 a1 a2 a3 a4 a5 = some true) (p4 : laws_logSmall.f K b4 = some true) (p6 : laws_logSmall.f K b6 = some true) (u3 : decide (5000 < (b3.length : Int)) = true) :
    Calls Try.prog 3 #[.agg #[.int .i64 a0, .int .i64 a1, .int .i64 a2, .int .u64 a3, .int .u64 a4, .int .u64 a5], .int .u64 (x : Int), .int .u64 (n : Int), .slice A3 b3.length c3, .slice A4 b4.length c4, .slice A5 b5.length c5, .slice A6 b6.length c6, .slice A7 b7.length c7] w fun e w' => e = .returned (.bool true) ∧ Below w.heap.size w w' := by
  have h3_ := Aside0.mk h3
  have h4_ := Aside0.mk h4
  have h5_ := Aside0.mk h5
  have h6_ := Aside0.mk h6
  have h7_ := Aside0.mk h7
  clear h3 h4 h5 h6 h7
  have _u := And.intro e3 (And.intro e4 (And.intro e5 (And.intro e6 (And.intro e7 (Eq.refl K)))))
  clear _u
  have Z4 := Aside0.mk z4
  clear z4
  have Z6 := Aside0.mk z6
  clear z6
  have TT := Aside0.mk tt
  clear tt
  have P4 := Aside0.mk p4
  clear p4
  have P6 := Aside0.mk p6
  clear p6
  have HB := Aside0.mk (below_alloc (Below.refl w.heap.size w) (.cells #[.int .i64 a0, .int .i64 a1, .int .i64 a2, .int .u64 a3, .int .u64 a4, .int .u64 a5] 24))
  have HX := Aside0.mk (heap_alloc_new w (.cells #[.int .i64 a0, .int .i64 a1, .int .i64 a2, .int .u64 a3, .int .u64 a4, .int .u64 a5] 24))
  go_enter Try.func3, Try.ntmps3
  go_wp2_with fail
  go_wp2_with (first
    | (go_at_call 5; (with_reducible refine (laws_zzFits2.calls K _ _ b4 _ _ (Kd.C_below h4_.out HB.out) e4 Z4.out).mono ?_); rintro e w1 ⟨rfl, hd⟩; have hb := hd.below; clear hd; have HB1 := Aside0.mk (below_then HB.out HB.out.size hb); have HX1 := Aside0.mk (blk_below HX.out hb); clear HB HX hb; have HB := HB1; have HX := HX1; clear HB1 HX1; (try clear hk0 hk1 hk2 hk3 hk4 hk5); obtain ⟨hk0, hk1, hk2, hk3, hk4, hk5⟩ := box6 HX.out)
    | (go_at_call 5; (with_reducible refine (laws_zzFits2.calls K _ _ b6 _ _ (Kd.C_below h6_.out HB.out) e6 Z6.out).mono ?_); rintro e w2 ⟨rfl, hd⟩; have hb := hd.below; clear hd; have HB1 := Aside0.mk (below_then HB.out HB.out.size hb); have HX1 := Aside0.mk (blk_below HX.out hb); clear HB HX hb; have HB := HB1; have HX := HX1; clear HB1 HX1; (try clear hk0 hk1 hk2 hk3 hk4 hk5); obtain ⟨hk0, hk1, hk2, hk3, hk4, hk5⟩ := box6 HX.out)
    | (go_at_call 6; (with_reducible refine (spec_Terms.calls a0 a1 a2 a3 a4 a5 _ _ TT.out).mono ?_); rintro e w3 ⟨rfl, hb⟩; have HB1 := Aside0.mk (below_then HB.out HB.out.size hb); have HX1 := Aside0.mk (blk_below HX.out hb); clear HB HX hb; have HB := HB1; have HX := HX1; clear HB1 HX1; (try clear hk0 hk1 hk2 hk3 hk4 hk5); obtain ⟨hk0, hk1, hk2, hk3, hk4, hk5⟩ := box6 HX.out)
    | (go_at_call 7; (with_reducible refine (laws_logSmall.calls K _ _ b4 _ _ (Kd.C_below h4_.out HB.out) e4 P4.out).mono ?_); rintro e w4 ⟨rfl, hd⟩; have hb := hd.below; clear hd; have HB1 := Aside0.mk (below_then HB.out HB.out.size hb); have HX1 := Aside0.mk (blk_below HX.out hb); clear HB HX hb; have HB := HB1; have HX := HX1; clear HB1 HX1; (try clear hk0 hk1 hk2 hk3 hk4 hk5); obtain ⟨hk0, hk1, hk2, hk3, hk4, hk5⟩ := box6 HX.out)
    | (go_at_call 7; (with_reducible refine (laws_logSmall.calls K _ _ b6 _ _ (Kd.C_below h6_.out HB.out) e6 P6.out).mono ?_); rintro e w5 ⟨rfl, hd⟩; have hb := hd.below; clear hd; have HB1 := Aside0.mk (below_then HB.out HB.out.size hb); have HX1 := Aside0.mk (blk_below HX.out hb); clear HB HX hb; have HB := HB1; have HX := HX1; clear HB1 HX1; (try clear hk0 hk1 hk2 hk3 hk4 hk5); obtain ⟨hk0, hk1, hk2, hk3, hk4, hk5⟩ := box6 HX.out))
  go_ret
  exact ⟨rfl, HB.out⟩

set_option maxHeartbeats 2000000 in
set_option maxRecDepth 100000 in
theorem waya (K : Nat) (a0 a1 a2 a3 a4 a5 : Int) (x n : Nat) (A3 : Option Addr) (c3 : Nat) (b3 : List Int) (A4 : Option Addr) (c4 : Nat) (b4 : List (List Int)) (A5 : Option Addr) (c5 : Nat) (b5 : List Int) (A6 : Option Addr) (c6 : Nat) (b6 : List (List Int)) (A7 : Option Addr) (c7 : Nat) (b7 : List Int) (w : World) (h3 : CB w A3 b3) (e3 : b3.length ≤ c3) (h4 : CL w A4 b4) (e4 : b4.length ≤ c4) (h5 : CB w A5 b5) (e5 : b5.length ≤ c5) (h6 : CL w A6 b6) (e6 : b6.length ≤ c6) (h7 : CB w A7 b7) (e7 : b7.length ≤ c7) (t3 : decide (2147483647 < (b3.length : Int)) = false) (z4 : laws_zzFits2.f K b4 = some true) (t5 : decide (2147483647 < (b5.length : Int)) = false) (z6 : laws_zzFits2.f K b6 = some true) (t7 : decide (2147483647 < (b7.length : Int)) = false) (tt : spec_Terms.f a0 a1 a2 a3 a4 a5 = some true) (p4 : laws_logSmall.f K b4 = some true) (p6 : laws_logSmall.f K b6 = some true) (u3 : decide (5000 < (b3.length : Int)) = false) (u5 : decide (5000 < (b5.length : Int)) = true) :
    Calls Try.prog 3 #[.agg #[.int .i64 a0, .int .i64 a1, .int .i64 a2, .int .u64 a3, .int .u64 a4, .int .u64 a5], .int .u64 (x : Int), .int .u64 (n : Int), .slice A3 b3.length c3, .slice A4 b4.length c4, .slice A5 b5.length c5, .slice A6 b6.length c6, .slice A7 b7.length c7] w fun e w' => e = .returned (.bool true) ∧ Below w.heap.size w w' := by
  have h3_ := Aside0.mk h3
  have h4_ := Aside0.mk h4
  have h5_ := Aside0.mk h5
  have h6_ := Aside0.mk h6
  have h7_ := Aside0.mk h7
  clear h3 h4 h5 h6 h7
  have _u := And.intro e3 (And.intro e4 (And.intro e5 (And.intro e6 (And.intro e7 (Eq.refl K)))))
  clear _u
  have Z4 := Aside0.mk z4
  clear z4
  have Z6 := Aside0.mk z6
  clear z6
  have TT := Aside0.mk tt
  clear tt
  have P4 := Aside0.mk p4
  clear p4
  have P6 := Aside0.mk p6
  clear p6
  have HB := Aside0.mk (below_alloc (Below.refl w.heap.size w) (.cells #[.int .i64 a0, .int .i64 a1, .int .i64 a2, .int .u64 a3, .int .u64 a4, .int .u64 a5] 24))
  have HX := Aside0.mk (heap_alloc_new w (.cells #[.int .i64 a0, .int .i64 a1, .int .i64 a2, .int .u64 a3, .int .u64 a4, .int .u64 a5] 24))
  go_enter Try.func3, Try.ntmps3
  go_wp2_with fail
  go_wp2_with (first
    | (go_at_call 5; (with_reducible refine (laws_zzFits2.calls K _ _ b4 _ _ (Kd.C_below h4_.out HB.out) e4 Z4.out).mono ?_); rintro e w1 ⟨rfl, hd⟩; have hb := hd.below; clear hd; have HB1 := Aside0.mk (below_then HB.out HB.out.size hb); have HX1 := Aside0.mk (blk_below HX.out hb); clear HB HX hb; have HB := HB1; have HX := HX1; clear HB1 HX1; (try clear hk0 hk1 hk2 hk3 hk4 hk5); obtain ⟨hk0, hk1, hk2, hk3, hk4, hk5⟩ := box6 HX.out)
    | (go_at_call 5; (with_reducible refine (laws_zzFits2.calls K _ _ b6 _ _ (Kd.C_below h6_.out HB.out) e6 Z6.out).mono ?_); rintro e w2 ⟨rfl, hd⟩; have hb := hd.below; clear hd; have HB1 := Aside0.mk (below_then HB.out HB.out.size hb); have HX1 := Aside0.mk (blk_below HX.out hb); clear HB HX hb; have HB := HB1; have HX := HX1; clear HB1 HX1; (try clear hk0 hk1 hk2 hk3 hk4 hk5); obtain ⟨hk0, hk1, hk2, hk3, hk4, hk5⟩ := box6 HX.out)
    | (go_at_call 6; (with_reducible refine (spec_Terms.calls a0 a1 a2 a3 a4 a5 _ _ TT.out).mono ?_); rintro e w3 ⟨rfl, hb⟩; have HB1 := Aside0.mk (below_then HB.out HB.out.size hb); have HX1 := Aside0.mk (blk_below HX.out hb); clear HB HX hb; have HB := HB1; have HX := HX1; clear HB1 HX1; (try clear hk0 hk1 hk2 hk3 hk4 hk5); obtain ⟨hk0, hk1, hk2, hk3, hk4, hk5⟩ := box6 HX.out)
    | (go_at_call 7; (with_reducible refine (laws_logSmall.calls K _ _ b4 _ _ (Kd.C_below h4_.out HB.out) e4 P4.out).mono ?_); rintro e w4 ⟨rfl, hd⟩; have hb := hd.below; clear hd; have HB1 := Aside0.mk (below_then HB.out HB.out.size hb); have HX1 := Aside0.mk (blk_below HX.out hb); clear HB HX hb; have HB := HB1; have HX := HX1; clear HB1 HX1; (try clear hk0 hk1 hk2 hk3 hk4 hk5); obtain ⟨hk0, hk1, hk2, hk3, hk4, hk5⟩ := box6 HX.out)
    | (go_at_call 7; (with_reducible refine (laws_logSmall.calls K _ _ b6 _ _ (Kd.C_below h6_.out HB.out) e6 P6.out).mono ?_); rintro e w5 ⟨rfl, hd⟩; have hb := hd.below; clear hd; have HB1 := Aside0.mk (below_then HB.out HB.out.size hb); have HX1 := Aside0.mk (blk_below HX.out hb); clear HB HX hb; have HB := HB1; have HX := HX1; clear HB1 HX1; (try clear hk0 hk1 hk2 hk3 hk4 hk5); obtain ⟨hk0, hk1, hk2, hk3, hk4, hk5⟩ := box6 HX.out))
  go_ret
  exact ⟨rfl, HB.out⟩

set_option maxHeartbeats 2000000 in
set_option maxRecDepth 100000 in
theorem wayb (K : Nat) (a0 a1 a2 a3 a4 a5 : Int) (x n : Nat) (A3 : Option Addr) (c3 : Nat) (b3 : List Int) (A4 : Option Addr) (c4 : Nat) (b4 : List (List Int)) (A5 : Option Addr) (c5 : Nat) (b5 : List Int) (A6 : Option Addr) (c6 : Nat) (b6 : List (List Int)) (A7 : Option Addr) (c7 : Nat) (b7 : List Int) (w : World) (h3 : CB w A3 b3) (e3 : b3.length ≤ c3) (h4 : CL w A4 b4) (e4 : b4.length ≤ c4) (h5 : CB w A5 b5) (e5 : b5.length ≤ c5) (h6 : CL w A6 b6) (e6 : b6.length ≤ c6) (h7 : CB w A7 b7) (e7 : b7.length ≤ c7) (t3 : decide (2147483647 < (b3.length : Int)) = false) (z4 : laws_zzFits2.f K b4 = some true) (t5 : decide (2147483647 < (b5.length : Int)) = false) (z6 : laws_zzFits2.f K b6 = some true) (t7 : decide (2147483647 < (b7.length : Int)) = false) (tt : spec_Terms.f a0 a1 a2 a3 a4 a5 = some true) (p4 : laws_logSmall.f K b4 = some true) (p6 : laws_logSmall.f K b6 = some true) (u3 : decide (5000 < (b3.length : Int)) = false) (u5 : decide (5000 < (b5.length : Int)) = false) (r1 r2 : Int) (s1 s2 : List Int) (v1_ : impl_VerifyInclusion.f a0 a1 a2 a3 a4 a5 (x : Int) (n : Int) b3 b4 b7 = some (r1, s1)) (v2_ : impl_VerifyInclusion.f a0 a1 a2 a3 a4 a5 (x : Int) (n : Int) b5 b6 b7 = some (r2, s2)) (look : ∀ W : World, Below w.heap.size w W → Calls Try.prog 9 #[.agg #[.int .i64 a0, .int .i64 a1, .int .i64 a2, .int .u64 a3, .int .u64 a4, .int .u64 a5], .int .u64 (x : Int), .int .u64 (n : Int), .slice A3 b3.length c3, .slice A4 b4.length c4, .slice A7 b7.length c7] W fun e W' => ∃ v, e = .returned (.tuple #[.int .i64 r1, v]) ∧ Below W.heap.size W W') (q1 : (r1 != 0) = true) :
    Calls Try.prog 3 #[.agg #[.int .i64 a0, .int .i64 a1, .int .i64 a2, .int .u64 a3, .int .u64 a4, .int .u64 a5], .int .u64 (x : Int), .int .u64 (n : Int), .slice A3 b3.length c3, .slice A4 b4.length c4, .slice A5 b5.length c5, .slice A6 b6.length c6, .slice A7 b7.length c7] w fun e w' => e = .returned (.bool true) ∧ Below w.heap.size w w' := by
  have h3_ := Aside0.mk h3
  have h4_ := Aside0.mk h4
  have h5_ := Aside0.mk h5
  have h6_ := Aside0.mk h6
  have h7_ := Aside0.mk h7
  clear h3 h4 h5 h6 h7
  have _u := And.intro e3 (And.intro e4 (And.intro e5 (And.intro e6 (And.intro e7 (Eq.refl K)))))
  clear _u
  have Z4 := Aside0.mk z4
  clear z4
  have Z6 := Aside0.mk z6
  clear z6
  have TT := Aside0.mk tt
  clear tt
  have P4 := Aside0.mk p4
  clear p4
  have P6 := Aside0.mk p6
  clear p6
  have V1 := Aside0.mk v1_
  clear v1_
  have V2 := Aside0.mk v2_
  clear v2_
  have LOOK := Aside0.mk look
  clear look
  have q0 : (r1 != r1) = false := by simp
  have HB := Aside0.mk (below_alloc (Below.refl w.heap.size w) (.cells #[.int .i64 a0, .int .i64 a1, .int .i64 a2, .int .u64 a3, .int .u64 a4, .int .u64 a5] 24))
  have HX := Aside0.mk (heap_alloc_new w (.cells #[.int .i64 a0, .int .i64 a1, .int .i64 a2, .int .u64 a3, .int .u64 a4, .int .u64 a5] 24))
  go_enter Try.func3, Try.ntmps3
  go_wp2_with fail
  go_wp2_with (first
    | (go_at_call 5; (with_reducible refine (laws_zzFits2.calls K _ _ b4 _ _ (Kd.C_below h4_.out HB.out) e4 Z4.out).mono ?_); rintro e w1 ⟨rfl, hd⟩; have hb := hd.below; clear hd; have HB1 := Aside0.mk (below_then HB.out HB.out.size hb); have HX1 := Aside0.mk (blk_below HX.out hb); clear HB HX hb; have HB := HB1; have HX := HX1; clear HB1 HX1; (try clear hk0 hk1 hk2 hk3 hk4 hk5); obtain ⟨hk0, hk1, hk2, hk3, hk4, hk5⟩ := box6 HX.out)
    | (go_at_call 5; (with_reducible refine (laws_zzFits2.calls K _ _ b6 _ _ (Kd.C_below h6_.out HB.out) e6 Z6.out).mono ?_); rintro e w2 ⟨rfl, hd⟩; have hb := hd.below; clear hd; have HB1 := Aside0.mk (below_then HB.out HB.out.size hb); have HX1 := Aside0.mk (blk_below HX.out hb); clear HB HX hb; have HB := HB1; have HX := HX1; clear HB1 HX1; (try clear hk0 hk1 hk2 hk3 hk4 hk5); obtain ⟨hk0, hk1, hk2, hk3, hk4, hk5⟩ := box6 HX.out)
    | (go_at_call 6; (with_reducible refine (spec_Terms.calls a0 a1 a2 a3 a4 a5 _ _ TT.out).mono ?_); rintro e w3 ⟨rfl, hb⟩; have HB1 := Aside0.mk (below_then HB.out HB.out.size hb); have HX1 := Aside0.mk (blk_below HX.out hb); clear HB HX hb; have HB := HB1; have HX := HX1; clear HB1 HX1; (try clear hk0 hk1 hk2 hk3 hk4 hk5); obtain ⟨hk0, hk1, hk2, hk3, hk4, hk5⟩ := box6 HX.out)
    | (go_at_call 7; (with_reducible refine (laws_logSmall.calls K _ _ b4 _ _ (Kd.C_below h4_.out HB.out) e4 P4.out).mono ?_); rintro e w4 ⟨rfl, hd⟩; have hb := hd.below; clear hd; have HB1 := Aside0.mk (below_then HB.out HB.out.size hb); have HX1 := Aside0.mk (blk_below HX.out hb); clear HB HX hb; have HB := HB1; have HX := HX1; clear HB1 HX1; (try clear hk0 hk1 hk2 hk3 hk4 hk5); obtain ⟨hk0, hk1, hk2, hk3, hk4, hk5⟩ := box6 HX.out)
    | (go_at_call 7; (with_reducible refine (laws_logSmall.calls K _ _ b6 _ _ (Kd.C_below h6_.out HB.out) e6 P6.out).mono ?_); rintro e w5 ⟨rfl, hd⟩; have hb := hd.below; clear hd; have HB1 := Aside0.mk (below_then HB.out HB.out.size hb); have HX1 := Aside0.mk (blk_below HX.out hb); clear HB HX hb; have HB := HB1; have HX := HX1; clear HB1 HX1; (try clear hk0 hk1 hk2 hk3 hk4 hk5); obtain ⟨hk0, hk1, hk2, hk3, hk4, hk5⟩ := box6 HX.out)
    | (go_at_call 8; (with_reducible refine (impl_VerifyInclusion.calls a0 a1 a2 a3 a4 a5 _ _ _ _ b3 _ _ b4 _ _ b7 r1 s1 _ (Kd.C_below h3_.out HB.out) e3 (Kd.C_below h4_.out HB.out) e4 (Kd.C_below h7_.out HB.out) e7 V1.out).mono ?_); rintro e w6 ⟨v1, rfl, _, hb⟩; have HB1 := Aside0.mk (below_then HB.out HB.out.size hb); have HX1 := Aside0.mk (blk_below HX.out hb); clear HB HX hb; have HB := HB1; have HX := HX1; clear HB1 HX1; (try clear hk0 hk1 hk2 hk3 hk4 hk5); obtain ⟨hk0, hk1, hk2, hk3, hk4, hk5⟩ := box6 HX.out)
    | (go_at_call 8; (with_reducible refine (impl_VerifyInclusion.calls a0 a1 a2 a3 a4 a5 _ _ _ _ b5 _ _ b6 _ _ b7 r2 s2 _ (Kd.C_below h5_.out HB.out) e5 (Kd.C_below h6_.out HB.out) e6 (Kd.C_below h7_.out HB.out) e7 V2.out).mono ?_); rintro e w7 ⟨v2, rfl, _, hb⟩; have HB1 := Aside0.mk (below_then HB.out HB.out.size hb); have HX1 := Aside0.mk (blk_below HX.out hb); clear HB HX hb; have HB := HB1; have HX := HX1; clear HB1 HX1; (try clear hk0 hk1 hk2 hk3 hk4 hk5); obtain ⟨hk0, hk1, hk2, hk3, hk4, hk5⟩ := box6 HX.out)
    | (go_at_call 9; (with_reducible refine (LOOK.out _ HB.out).mono ?_); rintro e w8 ⟨v3, rfl, hb⟩; have HB1 := Aside0.mk (below_then HB.out HB.out.size hb); have HX1 := Aside0.mk (blk_below HX.out hb); clear HB HX hb; have HB := HB1; have HX := HX1; clear HB1 HX1; (try clear hk0 hk1 hk2 hk3 hk4 hk5); obtain ⟨hk0, hk1, hk2, hk3, hk4, hk5⟩ := box6 HX.out))
  go_ret
  exact ⟨rfl, HB.out⟩

set_option maxHeartbeats 2000000 in
set_option maxRecDepth 100000 in
theorem wayc (K : Nat) (a0 a1 a2 a3 a4 a5 : Int) (x n : Nat) (A3 : Option Addr) (c3 : Nat) (b3 : List Int) (A4 : Option Addr) (c4 : Nat) (b4 : List (List Int)) (A5 : Option Addr) (c5 : Nat) (b5 : List Int) (A6 : Option Addr) (c6 : Nat) (b6 : List (List Int)) (A7 : Option Addr) (c7 : Nat) (b7 : List Int) (w : World) (h3 : CB w A3 b3) (e3 : b3.length ≤ c3) (h4 : CL w A4 b4) (e4 : b4.length ≤ c4) (h5 : CB w A5 b5) (e5 : b5.length ≤ c5) (h6 : CL w A6 b6) (e6 : b6.length ≤ c6) (h7 : CB w A7 b7) (e7 : b7.length ≤ c7) (t3 : decide (2147483647 < (b3.length : Int)) = false) (z4 : laws_zzFits2.f K b4 = some true) (t5 : decide (2147483647 < (b5.length : Int)) = false) (z6 : laws_zzFits2.f K b6 = some true) (t7 : decide (2147483647 < (b7.length : Int)) = false) (tt : spec_Terms.f a0 a1 a2 a3 a4 a5 = some true) (p4 : laws_logSmall.f K b4 = some true) (p6 : laws_logSmall.f K b6 = some true) (u3 : decide (5000 < (b3.length : Int)) = false) (u5 : decide (5000 < (b5.length : Int)) = false) (r1 r2 : Int) (s1 s2 : List Int) (v1_ : impl_VerifyInclusion.f a0 a1 a2 a3 a4 a5 (x : Int) (n : Int) b3 b4 b7 = some (r1, s1)) (v2_ : impl_VerifyInclusion.f a0 a1 a2 a3 a4 a5 (x : Int) (n : Int) b5 b6 b7 = some (r2, s2)) (look : ∀ W : World, Below w.heap.size w W → Calls Try.prog 9 #[.agg #[.int .i64 a0, .int .i64 a1, .int .i64 a2, .int .u64 a3, .int .u64 a4, .int .u64 a5], .int .u64 (x : Int), .int .u64 (n : Int), .slice A3 b3.length c3, .slice A4 b4.length c4, .slice A7 b7.length c7] W fun e W' => ∃ v, e = .returned (.tuple #[.int .i64 r1, v]) ∧ Below W.heap.size W W') (q1 : (r1 != 0) = false) (q2 : (r2 != 0) = true) :
    Calls Try.prog 3 #[.agg #[.int .i64 a0, .int .i64 a1, .int .i64 a2, .int .u64 a3, .int .u64 a4, .int .u64 a5], .int .u64 (x : Int), .int .u64 (n : Int), .slice A3 b3.length c3, .slice A4 b4.length c4, .slice A5 b5.length c5, .slice A6 b6.length c6, .slice A7 b7.length c7] w fun e w' => e = .returned (.bool true) ∧ Below w.heap.size w w' := by
  have h3_ := Aside0.mk h3
  have h4_ := Aside0.mk h4
  have h5_ := Aside0.mk h5
  have h6_ := Aside0.mk h6
  have h7_ := Aside0.mk h7
  clear h3 h4 h5 h6 h7
  have _u := And.intro e3 (And.intro e4 (And.intro e5 (And.intro e6 (And.intro e7 (Eq.refl K)))))
  clear _u
  have Z4 := Aside0.mk z4
  clear z4
  have Z6 := Aside0.mk z6
  clear z6
  have TT := Aside0.mk tt
  clear tt
  have P4 := Aside0.mk p4
  clear p4
  have P6 := Aside0.mk p6
  clear p6
  have V1 := Aside0.mk v1_
  clear v1_
  have V2 := Aside0.mk v2_
  clear v2_
  have LOOK := Aside0.mk look
  clear look
  have q0 : (r1 != r1) = false := by simp
  have HB := Aside0.mk (below_alloc (Below.refl w.heap.size w) (.cells #[.int .i64 a0, .int .i64 a1, .int .i64 a2, .int .u64 a3, .int .u64 a4, .int .u64 a5] 24))
  have HX := Aside0.mk (heap_alloc_new w (.cells #[.int .i64 a0, .int .i64 a1, .int .i64 a2, .int .u64 a3, .int .u64 a4, .int .u64 a5] 24))
  go_enter Try.func3, Try.ntmps3
  go_wp2_with fail
  go_wp2_with (first
    | (go_at_call 5; (with_reducible refine (laws_zzFits2.calls K _ _ b4 _ _ (Kd.C_below h4_.out HB.out) e4 Z4.out).mono ?_); rintro e w1 ⟨rfl, hd⟩; have hb := hd.below; clear hd; have HB1 := Aside0.mk (below_then HB.out HB.out.size hb); have HX1 := Aside0.mk (blk_below HX.out hb); clear HB HX hb; have HB := HB1; have HX := HX1; clear HB1 HX1; (try clear hk0 hk1 hk2 hk3 hk4 hk5); obtain ⟨hk0, hk1, hk2, hk3, hk4, hk5⟩ := box6 HX.out)
    | (go_at_call 5; (with_reducible refine (laws_zzFits2.calls K _ _ b6 _ _ (Kd.C_below h6_.out HB.out) e6 Z6.out).mono ?_); rintro e w2 ⟨rfl, hd⟩; have hb := hd.below; clear hd; have HB1 := Aside0.mk (below_then HB.out HB.out.size hb); have HX1 := Aside0.mk (blk_below HX.out hb); clear HB HX hb; have HB := HB1; have HX := HX1; clear HB1 HX1; (try clear hk0 hk1 hk2 hk3 hk4 hk5); obtain ⟨hk0, hk1, hk2, hk3, hk4, hk5⟩ := box6 HX.out)
    | (go_at_call 6; (with_reducible refine (spec_Terms.calls a0 a1 a2 a3 a4 a5 _ _ TT.out).mono ?_); rintro e w3 ⟨rfl, hb⟩; have HB1 := Aside0.mk (below_then HB.out HB.out.size hb); have HX1 := Aside0.mk (blk_below HX.out hb); clear HB HX hb; have HB := HB1; have HX := HX1; clear HB1 HX1; (try clear hk0 hk1 hk2 hk3 hk4 hk5); obtain ⟨hk0, hk1, hk2, hk3, hk4, hk5⟩ := box6 HX.out)
    | (go_at_call 7; (with_reducible refine (laws_logSmall.calls K _ _ b4 _ _ (Kd.C_below h4_.out HB.out) e4 P4.out).mono ?_); rintro e w4 ⟨rfl, hd⟩; have hb := hd.below; clear hd; have HB1 := Aside0.mk (below_then HB.out HB.out.size hb); have HX1 := Aside0.mk (blk_below HX.out hb); clear HB HX hb; have HB := HB1; have HX := HX1; clear HB1 HX1; (try clear hk0 hk1 hk2 hk3 hk4 hk5); obtain ⟨hk0, hk1, hk2, hk3, hk4, hk5⟩ := box6 HX.out)
    | (go_at_call 7; (with_reducible refine (laws_logSmall.calls K _ _ b6 _ _ (Kd.C_below h6_.out HB.out) e6 P6.out).mono ?_); rintro e w5 ⟨rfl, hd⟩; have hb := hd.below; clear hd; have HB1 := Aside0.mk (below_then HB.out HB.out.size hb); have HX1 := Aside0.mk (blk_below HX.out hb); clear HB HX hb; have HB := HB1; have HX := HX1; clear HB1 HX1; (try clear hk0 hk1 hk2 hk3 hk4 hk5); obtain ⟨hk0, hk1, hk2, hk3, hk4, hk5⟩ := box6 HX.out)
    | (go_at_call 8; (with_reducible refine (impl_VerifyInclusion.calls a0 a1 a2 a3 a4 a5 _ _ _ _ b3 _ _ b4 _ _ b7 r1 s1 _ (Kd.C_below h3_.out HB.out) e3 (Kd.C_below h4_.out HB.out) e4 (Kd.C_below h7_.out HB.out) e7 V1.out).mono ?_); rintro e w6 ⟨v1, rfl, _, hb⟩; have HB1 := Aside0.mk (below_then HB.out HB.out.size hb); have HX1 := Aside0.mk (blk_below HX.out hb); clear HB HX hb; have HB := HB1; have HX := HX1; clear HB1 HX1; (try clear hk0 hk1 hk2 hk3 hk4 hk5); obtain ⟨hk0, hk1, hk2, hk3, hk4, hk5⟩ := box6 HX.out)
    | (go_at_call 8; (with_reducible refine (impl_VerifyInclusion.calls a0 a1 a2 a3 a4 a5 _ _ _ _ b5 _ _ b6 _ _ b7 r2 s2 _ (Kd.C_below h5_.out HB.out) e5 (Kd.C_below h6_.out HB.out) e6 (Kd.C_below h7_.out HB.out) e7 V2.out).mono ?_); rintro e w7 ⟨v2, rfl, _, hb⟩; have HB1 := Aside0.mk (below_then HB.out HB.out.size hb); have HX1 := Aside0.mk (blk_below HX.out hb); clear HB HX hb; have HB := HB1; have HX := HX1; clear HB1 HX1; (try clear hk0 hk1 hk2 hk3 hk4 hk5); obtain ⟨hk0, hk1, hk2, hk3, hk4, hk5⟩ := box6 HX.out)
    | (go_at_call 9; (with_reducible refine (LOOK.out _ HB.out).mono ?_); rintro e w8 ⟨v3, rfl, hb⟩; have HB1 := Aside0.mk (below_then HB.out HB.out.size hb); have HX1 := Aside0.mk (blk_below HX.out hb); clear HB HX hb; have HB := HB1; have HX := HX1; clear HB1 HX1; (try clear hk0 hk1 hk2 hk3 hk4 hk5); obtain ⟨hk0, hk1, hk2, hk3, hk4, hk5⟩ := box6 HX.out))
  go_ret
  exact ⟨rfl, HB.out⟩

set_option maxHeartbeats 2000000 in
set_option maxRecDepth 100000 in
theorem wayd (K : Nat) (a0 a1 a2 a3 a4 a5 : Int) (x n : Nat) (A3 : Option Addr) (c3 : Nat) (b3 : List Int) (A4 : Option Addr) (c4 : Nat) (b4 : List (List Int)) (A5 : Option Addr) (c5 : Nat) (b5 : List Int) (A6 : Option Addr) (c6 : Nat) (b6 : List (List Int)) (A7 : Option Addr) (c7 : Nat) (b7 : List Int) (w : World) (h3 : CB w A3 b3) (e3 : b3.length ≤ c3) (h4 : CL w A4 b4) (e4 : b4.length ≤ c4) (h5 : CB w A5 b5) (e5 : b5.length ≤ c5) (h6 : CL w A6 b6) (e6 : b6.length ≤ c6) (h7 : CB w A7 b7) (e7 : b7.length ≤ c7) (t3 : decide (2147483647 < (b3.length : Int)) = false) (z4 : laws_zzFits2.f K b4 = some true) (t5 : decide (2147483647 < (b5.length : Int)) = false) (z6 : laws_zzFits2.f K b6 = some true) (t7 : decide (2147483647 < (b7.length : Int)) = false) (tt : spec_Terms.f a0 a1 a2 a3 a4 a5 = some true) (p4 : laws_logSmall.f K b4 = some true) (p6 : laws_logSmall.f K b6 = some true) (u3 : decide (5000 < (b3.length : Int)) = false) (u5 : decide (5000 < (b5.length : Int)) = false) (r1 r2 : Int) (s1 s2 : List Int) (v1_ : impl_VerifyInclusion.f a0 a1 a2 a3 a4 a5 (x : Int) (n : Int) b3 b4 b7 = some (r1, s1)) (v2_ : impl_VerifyInclusion.f a0 a1 a2 a3 a4 a5 (x : Int) (n : Int) b5 b6 b7 = some (r2, s2)) (look : ∀ W : World, Below w.heap.size w W → Calls Try.prog 9 #[.agg #[.int .i64 a0, .int .i64 a1, .int .i64 a2, .int .u64 a3, .int .u64 a4, .int .u64 a5], .int .u64 (x : Int), .int .u64 (n : Int), .slice A3 b3.length c3, .slice A4 b4.length c4, .slice A7 b7.length c7] W fun e W' => ∃ v, e = .returned (.tuple #[.int .i64 r1, v]) ∧ Below W.heap.size W W') (q1 : (r1 != 0) = false) (q2 : (r2 != 0) = false) (st : spec_SameText.f b3 b5 = some true) (hL : b4.length ≤ 300) (sa : sameF b4 b6 = true) :
    Calls Try.prog 3 #[.agg #[.int .i64 a0, .int .i64 a1, .int .i64 a2, .int .u64 a3, .int .u64 a4, .int .u64 a5], .int .u64 (x : Int), .int .u64 (n : Int), .slice A3 b3.length c3, .slice A4 b4.length c4, .slice A5 b5.length c5, .slice A6 b6.length c6, .slice A7 b7.length c7] w fun e w' => e = .returned (.bool true) ∧ Below w.heap.size w w' := by
  have h3_ := Aside0.mk h3
  have h4_ := Aside0.mk h4
  have h5_ := Aside0.mk h5
  have h6_ := Aside0.mk h6
  have h7_ := Aside0.mk h7
  clear h3 h4 h5 h6 h7
  have _u := And.intro e3 (And.intro e4 (And.intro e5 (And.intro e6 (And.intro e7 (Eq.refl K)))))
  clear _u
  have Z4 := Aside0.mk z4
  clear z4
  have Z6 := Aside0.mk z6
  clear z6
  have TT := Aside0.mk tt
  clear tt
  have P4 := Aside0.mk p4
  clear p4
  have P6 := Aside0.mk p6
  clear p6
  have V1 := Aside0.mk v1_
  clear v1_
  have V2 := Aside0.mk v2_
  clear v2_
  have LOOK := Aside0.mk look
  clear look
  have ST := Aside0.mk st
  clear st
  have SF := Aside0.mk sa
  clear sa
  have q0 : (r1 != r1) = false := by simp
  have HB := Aside0.mk (below_alloc (Below.refl w.heap.size w) (.cells #[.int .i64 a0, .int .i64 a1, .int .i64 a2, .int .u64 a3, .int .u64 a4, .int .u64 a5] 24))
  have HX := Aside0.mk (heap_alloc_new w (.cells #[.int .i64 a0, .int .i64 a1, .int .i64 a2, .int .u64 a3, .int .u64 a4, .int .u64 a5] 24))
  go_enter Try.func3, Try.ntmps3
  go_wp2_with fail
  go_wp2_with (first
    | (go_at_call 5; (with_reducible refine (laws_zzFits2.calls K _ _ b4 _ _ (Kd.C_below h4_.out HB.out) e4 Z4.out).mono ?_); rintro e w1 ⟨rfl, hd⟩; have hb := hd.below; clear hd; have HB1 := Aside0.mk (below_then HB.out HB.out.size hb); have HX1 := Aside0.mk (blk_below HX.out hb); clear HB HX hb; have HB := HB1; have HX := HX1; clear HB1 HX1; (try clear hk0 hk1 hk2 hk3 hk4 hk5); obtain ⟨hk0, hk1, hk2, hk3, hk4, hk5⟩ := box6 HX.out)
    | (go_at_call 5; (with_reducible refine (laws_zzFits2.calls K _ _ b6 _ _ (Kd.C_below h6_.out HB.out) e6 Z6.out).mono ?_); rintro e w2 ⟨rfl, hd⟩; have hb := hd.below; clear hd; have HB1 := Aside0.mk (below_then HB.out HB.out.size hb); have HX1 := Aside0.mk (blk_below HX.out hb); clear HB HX hb; have HB := HB1; have HX := HX1; clear HB1 HX1; (try clear hk0 hk1 hk2 hk3 hk4 hk5); obtain ⟨hk0, hk1, hk2, hk3, hk4, hk5⟩ := box6 HX.out)
    | (go_at_call 6; (with_reducible refine (spec_Terms.calls a0 a1 a2 a3 a4 a5 _ _ TT.out).mono ?_); rintro e w3 ⟨rfl, hb⟩; have HB1 := Aside0.mk (below_then HB.out HB.out.size hb); have HX1 := Aside0.mk (blk_below HX.out hb); clear HB HX hb; have HB := HB1; have HX := HX1; clear HB1 HX1; (try clear hk0 hk1 hk2 hk3 hk4 hk5); obtain ⟨hk0, hk1, hk2, hk3, hk4, hk5⟩ := box6 HX.out)
    | (go_at_call 7; (with_reducible refine (laws_logSmall.calls K _ _ b4 _ _ (Kd.C_below h4_.out HB.out) e4 P4.out).mono ?_); rintro e w4 ⟨rfl, hd⟩; have hb := hd.below; clear hd; have HB1 := Aside0.mk (below_then HB.out HB.out.size hb); have HX1 := Aside0.mk (blk_below HX.out hb); clear HB HX hb; have HB := HB1; have HX := HX1; clear HB1 HX1; (try clear hk0 hk1 hk2 hk3 hk4 hk5); obtain ⟨hk0, hk1, hk2, hk3, hk4, hk5⟩ := box6 HX.out)
    | (go_at_call 7; (with_reducible refine (laws_logSmall.calls K _ _ b6 _ _ (Kd.C_below h6_.out HB.out) e6 P6.out).mono ?_); rintro e w5 ⟨rfl, hd⟩; have hb := hd.below; clear hd; have HB1 := Aside0.mk (below_then HB.out HB.out.size hb); have HX1 := Aside0.mk (blk_below HX.out hb); clear HB HX hb; have HB := HB1; have HX := HX1; clear HB1 HX1; (try clear hk0 hk1 hk2 hk3 hk4 hk5); obtain ⟨hk0, hk1, hk2, hk3, hk4, hk5⟩ := box6 HX.out)
    | (go_at_call 8; (with_reducible refine (impl_VerifyInclusion.calls a0 a1 a2 a3 a4 a5 _ _ _ _ b3 _ _ b4 _ _ b7 r1 s1 _ (Kd.C_below h3_.out HB.out) e3 (Kd.C_below h4_.out HB.out) e4 (Kd.C_below h7_.out HB.out) e7 V1.out).mono ?_); rintro e w6 ⟨v1, rfl, _, hb⟩; have HB1 := Aside0.mk (below_then HB.out HB.out.size hb); have HX1 := Aside0.mk (blk_below HX.out hb); clear HB HX hb; have HB := HB1; have HX := HX1; clear HB1 HX1; (try clear hk0 hk1 hk2 hk3 hk4 hk5); obtain ⟨hk0, hk1, hk2, hk3, hk4, hk5⟩ := box6 HX.out)
    | (go_at_call 8; (with_reducible refine (impl_VerifyInclusion.calls a0 a1 a2 a3 a4 a5 _ _ _ _ b5 _ _ b6 _ _ b7 r2 s2 _ (Kd.C_below h5_.out HB.out) e5 (Kd.C_below h6_.out HB.out) e6 (Kd.C_below h7_.out HB.out) e7 V2.out).mono ?_); rintro e w7 ⟨v2, rfl, _, hb⟩; have HB1 := Aside0.mk (below_then HB.out HB.out.size hb); have HX1 := Aside0.mk (blk_below HX.out hb); clear HB HX hb; have HB := HB1; have HX := HX1; clear HB1 HX1; (try clear hk0 hk1 hk2 hk3 hk4 hk5); obtain ⟨hk0, hk1, hk2, hk3, hk4, hk5⟩ := box6 HX.out)
    | (go_at_call 9; (with_reducible refine (LOOK.out _ HB.out).mono ?_); rintro e w8 ⟨v3, rfl, hb⟩; have HB1 := Aside0.mk (below_then HB.out HB.out.size hb); have HX1 := Aside0.mk (blk_below HX.out hb); clear HB HX hb; have HB := HB1; have HX := HX1; clear HB1 HX1; (try clear hk0 hk1 hk2 hk3 hk4 hk5); obtain ⟨hk0, hk1, hk2, hk3, hk4, hk5⟩ := box6 HX.out)
    | (go_at_call 10; (with_reducible refine (spec_SameText.calls _ _ b3 _ _ b5 _ _ (Kd.C_below h3_.out HB.out) e3 (Kd.C_below h5_.out HB.out) e5 ST.out).mono ?_); rintro e w9 ⟨rfl, hd⟩; have hb := hd.below; clear hd; have HB1 := Aside0.mk (below_then HB.out HB.out.size hb); have HX1 := Aside0.mk (blk_below HX.out hb); clear HB HX hb; have HB := HB1; have HX := HX1; clear HB1 HX1; (try clear hk0 hk1 hk2 hk3 hk4 hk5); obtain ⟨hk0, hk1, hk2, hk3, hk4, hk5⟩ := box6 HX.out)
    | (go_at_call 11; (with_reducible refine (same_calls _ _ b4 _ _ b6 (by omega) _ (Kd.C_below h4_.out HB.out) (Kd.C_below h6_.out HB.out)).mono ?_); rw [SF.out]; rintro e wa ⟨rfl, hd⟩; have hb := hd.below; clear hd; have HB1 := Aside0.mk (below_then HB.out HB.out.size hb); have HX1 := Aside0.mk (blk_below HX.out hb); clear HB HX hb; have HB := HB1; have HX := HX1; clear HB1 HX1; (try clear hk0 hk1 hk2 hk3 hk4 hk5); obtain ⟨hk0, hk1, hk2, hk3, hk4, hk5⟩ := box6 HX.out))
  go_ret
  exact ⟨rfl, HB.out⟩

end Go.Proofs.Ytfhcpniibiobgaa.Qg
