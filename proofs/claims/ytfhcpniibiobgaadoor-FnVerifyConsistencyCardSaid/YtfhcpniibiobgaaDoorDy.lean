/- Several texts, joined. -/
import Derived.Test.YtfhcpniibiobgaaDoorPz
import Derived.Test.YtfhcpniibiobgaaDoorDc
import Derived.Deep.RegionHeld3
namespace Go.Proofs.YtfhcpniibiobgaaDoor.Qf
open Go.RowKit Go.Proofs.YtfhcpniibiobgaaDoorW.PrintWords Go.Proofs.YtfhcpniibiobgaaDoorW.PrintLast Go.Proofs.YtfhcpniibiobgaaDoorW.PrintMore
open Hs (CB CL at_L at_B infoB infoL R_of_blk)
open Go.Proofs.YtfhcpniibiobgaaDoor.Pure (hcF hcF_len specHC split_go wu rootsF rootsF_len)
open Go.Proofs.YtfhcpniibiobgaaDoor.M (vlen vlen_left vlen_right vlen_one)

set_option maxHeartbeats 2000000 in
set_option maxRecDepth 100000 in
theorem rootsIn_whole (a0 a1 a2 a3 a4 a5 : Int) (m b : Nat) (A1 : Option Addr) (c1 n1 : Nat) (A2 : Option Addr) (c2 : Nat) (r : List Int) (hr : r.length ≤ c2) (w : World) (h2 : CB w A2 r) :
    Calls Tryd.prog 97 #[.agg #[.int .i64 a0, .int .i64 a1, .int .i64 a2, .int .u64 a3, .int .u64 a4, .int .u64 a5], .int .u64 (m : Int), .agg #[.int .u64 (b : Int), .int .u64 (m : Int)], .bool true, .slice A1 n1 c1, .slice A2 r.length c2] w fun en w' => ∃ B1 d1 B2 d2, en = .returned (.tuple #[.slice B1 (r).length d1, .slice B2 (r).length d2]) ∧ (r).length ≤ d1 ∧ CB w' B1 (r) ∧ (r).length ≤ d2 ∧ CB w' B2 (r) ∧ Below w.heap.size w w' := by
  have H2 := Aside0.mk h2
  clear h2
  have e1 : ((m : Int) == (m : Int)) = true := by simp
  go_enter Tryd.func97, Tryd.ntmps97
  go_wp2
  go_ret2
  exact ⟨_, _, _, _, rfl, hr, Kd.C_below H2.out (by repeat (first | exact Below.refl _ _ | apply below_alloc | apply pw_below_drewN | apply below_drew1)), hr, Kd.C_below H2.out (by repeat (first | exact Below.refl _ _ | apply below_alloc | apply pw_below_drewN | apply below_drew1)), (by repeat (first | exact Below.refl _ _ | apply below_alloc | apply pw_below_drewN | apply below_drew1))⟩
set_option maxHeartbeats 2000000 in
set_option maxRecDepth 100000 in
theorem rootsIn_first (a0 a1 a2 a3 a4 a5 : Int) (m b : Nat) (A1 : Option Addr) (c1 : Nat) (pf : List (List Int)) (A2 : Option Addr) (c2 n2 : Nat) (hn : 0 < pf.length) (w : World) (h1 : CL w A1 pf) :
    Calls Tryd.prog 97 #[.agg #[.int .i64 a0, .int .i64 a1, .int .i64 a2, .int .u64 a3, .int .u64 a4, .int .u64 a5], .int .u64 (m : Int), .agg #[.int .u64 (b : Int), .int .u64 (m : Int)], .bool false, .slice A1 pf.length c1, .slice A2 n2 c2] w fun en w' => ∃ B1 d1 B2 d2, en = .returned (.tuple #[.slice B1 (pf.getD 0 []).length d1, .slice B2 (pf.getD 0 []).length d2]) ∧ (pf.getD 0 []).length ≤ d1 ∧ CB w' B1 (pf.getD 0 []) ∧ (pf.getD 0 []).length ≤ d2 ∧ CB w' B2 (pf.getD 0 []) ∧ Below w.heap.size w w' := by
  have e1 : ((m : Int) == (m : Int)) = true := by simp
  obtain ⟨ad, A0, c0, rfl, hcell, hl0, hC0⟩ := at_L h1 0 hn
  rw [Addr.add_zero'] at hcell
  have p1 : (0 : Int) < (pf.length : Int) := by omega
  have H0 := Aside0.mk hC0
  have HL0 := Aside0.mk hl0
  clear h1 hC0 hl0
  generalize pf.getD 0 [] = sd at H0 HL0 hcell ⊢
  go_enter Tryd.func97, Tryd.ntmps97
  go_wp2
  go_region_held3 (fun w' => w'.cell? ad = some (.slice A0 sd.length c0) ∧ Below w.heap.size w w')
    (((try dsimp only); (try go_split_ands); (repeat' apply And.intro) <;> first | (go_keep; done) | exact below_drew (below_alloc (below_alloc (Below.refl _ _) _) _)))
    (fail)
  go_wp2
  go_ret2
  go_split_ands
  exact ⟨_, _, _, _, rfl, HL0.out, Kd.C_below H0.out (by assumption), HL0.out, Kd.C_below H0.out (by assumption), by assumption⟩
set_option maxHeartbeats 2000000 in
set_option maxRecDepth 100000 in
theorem rootsIn_left (a0 a1 a2 a3 a4 a5 : Int) (m b e d s k : Nat) (wh : Bool) (A1 : Option Addr) (c1 : Nat) (pf : List (List Int)) (A2 : Option Addr) (c2 n2 : Nat) (f g : List Int) (hf : f.length ≤ 1000000) (hg : g.length ≤ 1000000) (he : e < 18446744073709551616) (hd : b + d = e) (hne : m ≠ e) (hs : b + s < 18446744073709551616) (hsp : spec_split.f 100 ((d : Nat) : Int) = some ((s : Nat) : Int)) (hx : m ≤ b + s) (hm : pf.length = k + 1) (hm2 : k < 100) (hc1 : pf.length ≤ c1) (w : World) (hps : (pf.getD k []).length ≤ 5000) (h1 : CL w A1 pf)
    (ih : ∀ W : World, Below w.heap.size w W → Calls Tryd.prog 97 #[.agg #[.int .i64 a0, .int .i64 a1, .int .i64 a2, .int .u64 a3, .int .u64 a4, .int .u64 a5], .int .u64 (m : Int), .agg #[.int .u64 (b : Int), .int .u64 ((b : Int) + (s : Int))], .bool wh, .slice A1 k c1, .slice A2 n2 c2] W fun en w' => ∃ B1 d1 B2 d2, en = .returned (.tuple #[.slice B1 (f).length d1, .slice B2 (g).length d2]) ∧ (f).length ≤ d1 ∧ CB w' B1 (f) ∧ (g).length ≤ d2 ∧ CB w' B2 (g) ∧ Below W.heap.size W w') :
    Calls Tryd.prog 97 #[.agg #[.int .i64 a0, .int .i64 a1, .int .i64 a2, .int .u64 a3, .int .u64 a4, .int .u64 a5], .int .u64 (m : Int), .agg #[.int .u64 (b : Int), .int .u64 (e : Int)], .bool wh, .slice A1 pf.length c1, .slice A2 n2 c2] w fun en w' => ∃ B1 d1 B2 d2, en = .returned (.tuple #[.slice B1 (f).length d1, .slice B2 (hcF a0 a2 a5 g (pf.getD k [])).length d2]) ∧ (f).length ≤ d1 ∧ CB w' B1 (f) ∧ (hcF a0 a2 a5 g (pf.getD k [])).length ≤ d2 ∧ CB w' B2 (hcF a0 a2 a5 g (pf.getD k [])) ∧ Below w.heap.size w w' := by
  have ewr : IntKind.u64.wrap ((e : Int) - (b : Int)) = (d : Int) := by rw [wu _ (by omega)]; omega
  have e1 : ((m : Int) == (e : Int)) = false := beq_eq_false_iff_ne.2 (by omega)
  have ek : IntKind.u64.wrap ((b : Int) + (s : Int)) = ((b + s : Nat) : Int) := by rw [wu _ (by omega)]; omega
  have et : decide ((m : Int) ≤ ((b + s : Nat) : Int)) = true := decide_eq_true (by omega)
  obtain ⟨ad, A0, c0, rfl, hcell, hl0, hC0⟩ := at_L h1 k (by omega)
  rw [hm]
  rw [hm] at hc1
  obtain ⟨iL, hiL, hsL⟩ := Option.map_eq_some_iff.1 infoL
  have hcut : ∀ W : World, (Instr.slice 25 (.slice (some ad) (k + 1) c1) none (some (.int .i64 (k : Int))) none).run Tryd.prog W = .ok (.slice (some ad) k c1) W := fun W => by
    have h := cut_to (P := Tryd.prog) 25 28 .i64 Tryd.underlying25 hiL (some ad) (k + 1) c1 (k : Int) (by omega) (by omega) hc1 W
    rw [Int.toNat_natCast] at h
    exact h
  clear hiL hsL
  have p0 : (0 : Int) ≤ (k : Int) := by omega
  have p1 : (k : Int) < ((k + 1 : Nat) : Int) := by omega
  have p2 : (k : Int) < (k : Int) + 1 := by omega
  have SP := Aside0.mk hsp
  have H1 := Aside0.mk h1
  have H0 := Aside0.mk hC0
  have HL0 := Aside0.mk hl0
  have HPS := Aside0.mk hps
  have HF := Aside0.mk hf
  have HGG := Aside0.mk hg
  have IH := Aside0.mk ih
  clear h1 hsp ih hd hm hC0 hl0 hps hf hg
  generalize (pf.getD k []) = lst at H0 HL0 HPS hcell ⊢
  go_enter Tryd.func97, Tryd.ntmps97
  go_wp2
  go_quiet ((go_at_call 76; exact Calls.quiet_of ((spec_split.calls 100 _ _ _ SP.out).mono fun _ _ ⟨he, hd⟩ => ⟨he, hd.out⟩)))
  go_wp2
  have hB1 := pw_below_drewN (below_alloc (below_alloc (Below.refl w.heap.size w) (.cells #[.int .i64 a0, .int .i64 a1, .int .i64 a2, .int .u64 a3, .int .u64 a4, .int .u64 a5] 24)) (.cells #[.int .u64 (b : Int), .int .u64 (e : Int)] 55)) nq
  go_region_held3 (fun w' => w'.cell? ⟨w.heap.size, 0, none⟩ = some (.int .i64 a0) ∧ w'.cell? ⟨w.heap.size, 1, none⟩ = some (.int .i64 a1) ∧ w'.cell? ⟨w.heap.size, 2, none⟩ = some (.int .i64 a2) ∧ w'.cell? ⟨w.heap.size, 3, none⟩ = some (.int .u64 a3) ∧ w'.cell? ⟨w.heap.size, 4, none⟩ = some (.int .u64 a4) ∧ w'.cell? ⟨w.heap.size, 5, none⟩ = some (.int .u64 a5) ∧ w'.cell? ⟨w.heap.size + 1, 0, none⟩ = some (.int .u64 (b : Int)) ∧ w'.cell? (ad.add k) = some (.slice A0 lst.length c0) ∧ Below w.heap.size w w')
    (((try dsimp only); (try go_split_ands); (repeat' apply And.intro) <;> first | (go_keep; done) | exact below_drew hB1 | (refine pw_cell_below hb ?_; assumption) | (refine below_then ?_ ?_ hb; assumption; exact Below.size (by assumption))))
    ((go_at_call 97; refine (IH.out _ (by go_split_ands; assumption)).mono ?_; rintro e w1 ⟨B1, d1, B2, d2, rfl, hl1, hC1, hl2, hC2, hb⟩))
  go_wp2
  go_split_ands
  have HC1 := Aside0.mk hC1
  have HC2 := Aside0.mk hC2
  clear hC1 hC2
  go_region_held3 (fun w' => w'.cell? ⟨w.heap.size, 0, none⟩ = some (.int .i64 a0) ∧ w'.cell? ⟨w.heap.size, 1, none⟩ = some (.int .i64 a1) ∧ w'.cell? ⟨w.heap.size, 2, none⟩ = some (.int .i64 a2) ∧ w'.cell? ⟨w.heap.size, 3, none⟩ = some (.int .u64 a3) ∧ w'.cell? ⟨w.heap.size, 4, none⟩ = some (.int .u64 a4) ∧ w'.cell? ⟨w.heap.size, 5, none⟩ = some (.int .u64 a5) ∧ w'.cell? (ad.add k) = some (.slice A0 lst.length c0) ∧ Below w.heap.size w w' ∧ Below w1.heap.size w1 w')
    (((try dsimp only); (try go_split_ands); (repeat' apply And.intro) <;> first | (go_keep; done) | exact below_drew (Below.refl _ _) | exact below_drew (by assumption) | (refine pw_cell_below hb ?_; assumption) | (refine below_then ?_ ?_ hb; assumption; exact Below.size (by assumption))))
    ((go_at_call 77; refine (spec_HashChildren.calls 2000000 a0 a1 a2 a3 a4 a5 _ _ g _ _ lst _ _ (Kd.C_below HC2.out (by go_split_ands; assumption)) hl2 (Kd.C_below H0.out (by go_split_ands; assumption)) HL0.out (specHC a0 a1 a2 a3 a4 a5 g lst (by have := HGG.out; omega) (by have := HPS.out; omega) 2000000 (by have := HGG.out; have := HPS.out; omega))).mono ?_; rintro e w2 ⟨v, rfl, hR, hb⟩))
  obtain ⟨A5, c5, rfl, hl5, hC5⟩ := Kd.R_reads hR
  go_wp2
  go_ret2
  go_split_ands
  exact ⟨_, _, _, _, rfl, hl1, Kd.C_below HC1.out (by assumption), hl5, hC5, by assumption⟩

set_option maxHeartbeats 2000000 in
set_option maxRecDepth 100000 in
theorem rootsIn_right (a0 a1 a2 a3 a4 a5 : Int) (m b e d s k : Nat) (wh : Bool) (A1 : Option Addr) (c1 : Nat) (pf : List (List Int)) (A2 : Option Addr) (c2 n2 : Nat) (f g : List Int) (hf : f.length ≤ 1000000) (hg : g.length ≤ 1000000) (he : e < 18446744073709551616) (hd : b + d = e) (hne : m ≠ e) (hs : b + s < 18446744073709551616) (hsp : spec_split.f 100 ((d : Nat) : Int) = some ((s : Nat) : Int)) (hx : b + s < m) (hm : pf.length = k + 1) (hm2 : k < 100) (hc1 : pf.length ≤ c1) (w : World) (hps : (pf.getD k []).length ≤ 5000) (h1 : CL w A1 pf)
    (ih : ∀ W : World, Below w.heap.size w W → Calls Tryd.prog 97 #[.agg #[.int .i64 a0, .int .i64 a1, .int .i64 a2, .int .u64 a3, .int .u64 a4, .int .u64 a5], .int .u64 (m : Int), .agg #[.int .u64 ((b : Int) + (s : Int)), .int .u64 (e : Int)], .bool false, .slice A1 k c1, .slice A2 n2 c2] W fun en w' => ∃ B1 d1 B2 d2, en = .returned (.tuple #[.slice B1 (f).length d1, .slice B2 (g).length d2]) ∧ (f).length ≤ d1 ∧ CB w' B1 (f) ∧ (g).length ≤ d2 ∧ CB w' B2 (g) ∧ Below W.heap.size W w') :
    Calls Tryd.prog 97 #[.agg #[.int .i64 a0, .int .i64 a1, .int .i64 a2, .int .u64 a3, .int .u64 a4, .int .u64 a5], .int .u64 (m : Int), .agg #[.int .u64 (b : Int), .int .u64 (e : Int)], .bool wh, .slice A1 pf.length c1, .slice A2 n2 c2] w fun en w' => ∃ B1 d1 B2 d2, en = .returned (.tuple #[.slice B1 (hcF a0 a2 a5 (pf.getD k []) f).length d1, .slice B2 (hcF a0 a2 a5 (pf.getD k []) g).length d2]) ∧ (hcF a0 a2 a5 (pf.getD k []) f).length ≤ d1 ∧ CB w' B1 (hcF a0 a2 a5 (pf.getD k []) f) ∧ (hcF a0 a2 a5 (pf.getD k []) g).length ≤ d2 ∧ CB w' B2 (hcF a0 a2 a5 (pf.getD k []) g) ∧ Below w.heap.size w w' := by
  have ewr : IntKind.u64.wrap ((e : Int) - (b : Int)) = (d : Int) := by rw [wu _ (by omega)]; omega
  have e1 : ((m : Int) == (e : Int)) = false := beq_eq_false_iff_ne.2 (by omega)
  have ek : IntKind.u64.wrap ((b : Int) + (s : Int)) = ((b + s : Nat) : Int) := by rw [wu _ (by omega)]; omega
  have et : decide ((m : Int) ≤ ((b + s : Nat) : Int)) = false := decide_eq_false (by omega)
  obtain ⟨ad, A0, c0, rfl, hcell, hl0, hC0⟩ := at_L h1 k (by omega)
  rw [hm]
  rw [hm] at hc1
  obtain ⟨iL, hiL, hsL⟩ := Option.map_eq_some_iff.1 infoL
  have hcut : ∀ W : World, (Instr.slice 25 (.slice (some ad) (k + 1) c1) none (some (.int .i64 (k : Int))) none).run Tryd.prog W = .ok (.slice (some ad) k c1) W := fun W => by
    have h := cut_to (P := Tryd.prog) 25 28 .i64 Tryd.underlying25 hiL (some ad) (k + 1) c1 (k : Int) (by omega) (by omega) hc1 W
    rw [Int.toNat_natCast] at h
    exact h
  clear hiL hsL
  have p0 : (0 : Int) ≤ (k : Int) := by omega
  have p1 : (k : Int) < ((k + 1 : Nat) : Int) := by omega
  have p2 : (k : Int) < (k : Int) + 1 := by omega
  have SP := Aside0.mk hsp
  have H1 := Aside0.mk h1
  have H0 := Aside0.mk hC0
  have HL0 := Aside0.mk hl0
  have HPS := Aside0.mk hps
  have HF := Aside0.mk hf
  have HGG := Aside0.mk hg
  have IH := Aside0.mk ih
  clear h1 hsp ih hd hm hC0 hl0 hps hf hg
  generalize (pf.getD k []) = lst at H0 HL0 HPS hcell ⊢
  go_enter Tryd.func97, Tryd.ntmps97
  go_wp2
  go_quiet ((go_at_call 76; exact Calls.quiet_of ((spec_split.calls 100 _ _ _ SP.out).mono fun _ _ ⟨he, hd⟩ => ⟨he, hd.out⟩)))
  go_wp2
  have hB1 := pw_below_drewN (below_alloc (below_alloc (Below.refl w.heap.size w) (.cells #[.int .i64 a0, .int .i64 a1, .int .i64 a2, .int .u64 a3, .int .u64 a4, .int .u64 a5] 24)) (.cells #[.int .u64 (b : Int), .int .u64 (e : Int)] 55)) nq
  go_region_held3 (fun w' => w'.cell? ⟨w.heap.size, 0, none⟩ = some (.int .i64 a0) ∧ w'.cell? ⟨w.heap.size, 1, none⟩ = some (.int .i64 a1) ∧ w'.cell? ⟨w.heap.size, 2, none⟩ = some (.int .i64 a2) ∧ w'.cell? ⟨w.heap.size, 3, none⟩ = some (.int .u64 a3) ∧ w'.cell? ⟨w.heap.size, 4, none⟩ = some (.int .u64 a4) ∧ w'.cell? ⟨w.heap.size, 5, none⟩ = some (.int .u64 a5) ∧ w'.cell? ⟨w.heap.size + 1, 1, none⟩ = some (.int .u64 (e : Int)) ∧ w'.cell? (ad.add k) = some (.slice A0 lst.length c0) ∧ Below w.heap.size w w')
    (((try dsimp only); (try go_split_ands); (repeat' apply And.intro) <;> first | (go_keep; done) | exact below_drew hB1 | (refine pw_cell_below hb ?_; assumption) | (refine below_then ?_ ?_ hb; assumption; exact Below.size (by assumption))))
    ((go_at_call 97; refine (IH.out _ (by go_split_ands; assumption)).mono ?_; rintro e w1 ⟨B1, d1, B2, d2, rfl, hl1, hC1, hl2, hC2, hb⟩))
  go_wp2
  go_split_ands
  have HC1 := Aside0.mk hC1
  have HC2 := Aside0.mk hC2
  clear hC1 hC2
  go_region_held3 (fun w' => w'.cell? ⟨w.heap.size, 0, none⟩ = some (.int .i64 a0) ∧ w'.cell? ⟨w.heap.size, 1, none⟩ = some (.int .i64 a1) ∧ w'.cell? ⟨w.heap.size, 2, none⟩ = some (.int .i64 a2) ∧ w'.cell? ⟨w.heap.size, 3, none⟩ = some (.int .u64 a3) ∧ w'.cell? ⟨w.heap.size, 4, none⟩ = some (.int .u64 a4) ∧ w'.cell? ⟨w.heap.size, 5, none⟩ = some (.int .u64 a5) ∧ w'.cell? (ad.add k) = some (.slice A0 lst.length c0) ∧ Below w.heap.size w w' ∧ Below w1.heap.size w1 w')
    (((try dsimp only); (try go_split_ands); (repeat' apply And.intro) <;> first | (go_keep; done) | exact below_drew (Below.refl _ _) | exact below_drew (by assumption) | (refine pw_cell_below hb ?_; assumption) | (refine below_then ?_ ?_ hb; assumption; exact Below.size (by assumption))))
    (first
      | (go_at_call 77; (with_reducible refine (spec_HashChildren.calls 2000000 a0 a1 a2 a3 a4 a5 _ _ lst _ _ f _ _ (Kd.C_below H0.out (by go_split_ands; assumption)) HL0.out (Kd.C_below HC1.out (by go_split_ands; assumption)) hl1 (specHC a0 a1 a2 a3 a4 a5 lst f (by have := HPS.out; omega) (by have := HF.out; omega) 2000000 (by have := HF.out; have := HPS.out; omega))).mono ?_); rintro e w2 ⟨v2, rfl, hR2, hb⟩; have hb2 := hb)
      | (go_at_call 77; (with_reducible refine (spec_HashChildren.calls 2000000 a0 a1 a2 a3 a4 a5 _ _ lst _ _ g _ _ (Kd.C_below H0.out (by go_split_ands; assumption)) HL0.out (Kd.C_below HC2.out (by go_split_ands; assumption)) hl2 (specHC a0 a1 a2 a3 a4 a5 lst g (by have := HPS.out; omega) (by have := HGG.out; omega) 2000000 (by have := HGG.out; have := HPS.out; omega))).mono ?_); rintro e w3 ⟨v3, rfl, hR3, hb⟩; have hb3 := hb))
  all_goals
    obtain ⟨A5, c5, rfl, hl5, hC5⟩ := Kd.R_reads hR2
    obtain ⟨A7, c7, rfl, hl7, hC7⟩ := Kd.R_reads hR3
    go_wp2
    go_ret2
    go_split_ands
    first | exact ⟨_, _, _, _, rfl, hl5, Kd.C_below hC5 hb3, hl7, hC7, by assumption⟩ | exact ⟨_, _, _, _, rfl, hl5, hC5, hl7, Kd.C_below hC7 hb2, by assumption⟩

end Go.Proofs.YtfhcpniibiobgaaDoor.Qf
namespace Go.Proofs.YtfhcpniibiobgaaDoor.Qf
open Go.RowKit Go.Proofs.YtfhcpniibiobgaaDoorW.PrintWords Go.Proofs.YtfhcpniibiobgaaDoorW.PrintLast Go.Proofs.YtfhcpniibiobgaaDoorW.PrintMore
open Hs (CB CL at_L at_B infoB infoL R_of_blk)
open Go.Proofs.YtfhcpniibiobgaaDoor.Pure (hcF hcF_len specHC split_go wu rootsF rootsF_len low_lt low_dvd inn_big inn_vlen pow_add_mul vlen_pow)
open Go.Proofs.YtfhcpniibiobgaaDoor.M (inn vlen vlen_left vlen_right vlen_one)

theorem rootsIn_calls (a0 a1 a2 a3 a4 a5 : Int) (x sh st : Nat) (hsd : 2 ^ sh ∣ x + 1) (hsn : ¬ 2 ^ (sh + 1) ∣ x + 1) (hst : st = if x + 1 = 2 ^ sh then 0 else 1) (A1 : Option Addr) (c1 : Nat) (A2 : Option Addr) (c2 : Nat) (r : List Int) (hr : r.length ≤ 100000) (hrc : r.length ≤ c2) : ∀ (T b e : Nat) (wh : Bool) (pf : List (List Int)) (w : World), T ≤ 64 → b ≤ x → x < e → e < 18446744073709551616 → (∃ u c, u ≤ T ∧ b = c * 2 ^ u ∧ e - b ≤ 2 ^ u) → (x + 1 = e → e - b = 2 ^ sh) → (wh = true ↔ b = 0) → pf.length + sh = st + vlen (x - b) (e - b) → pf.length < 100 → pf.length ≤ c1 → (∀ h ∈ pf, h.length ≤ 5000) → CB w A2 r → CL w A1 pf →
    Calls Tryd.prog 97 #[.agg #[.int .i64 a0, .int .i64 a1, .int .i64 a2, .int .u64 a3, .int .u64 a4, .int .u64 a5], .int .u64 ((x + 1 : Nat) : Int), .agg #[.int .u64 (b : Int), .int .u64 (e : Int)], .bool wh, .slice A1 pf.length c1, .slice A2 r.length c2] w fun en w' => ∃ B1 d1 B2 d2, en = .returned (.tuple #[.slice B1 (rootsF a0 a2 a5 (x + 1) T b e wh pf r).1.length d1, .slice B2 (rootsF a0 a2 a5 (x + 1) T b e wh pf r).2.length d2]) ∧ (rootsF a0 a2 a5 (x + 1) T b e wh pf r).1.length ≤ d1 ∧ CB w' B1 (rootsF a0 a2 a5 (x + 1) T b e wh pf r).1 ∧ (rootsF a0 a2 a5 (x + 1) T b e wh pf r).2.length ≤ d2 ∧ CB w' B2 (rootsF a0 a2 a5 (x + 1) T b e wh pf r).2 ∧ Below w.heap.size w w' := by
  have stop : ∀ (b e : Nat) (wh : Bool) (pf : List (List Int)) (w : World), b ≤ x → e < 18446744073709551616 → x + 1 = e → e - b = 2 ^ sh → (wh = true ↔ b = 0) → pf.length + sh = st + vlen (x - b) (e - b) → CB w A2 r → CL w A1 pf →
      Calls Tryd.prog 97 #[.agg #[.int .i64 a0, .int .i64 a1, .int .i64 a2, .int .u64 a3, .int .u64 a4, .int .u64 a5], .int .u64 ((x + 1 : Nat) : Int), .agg #[.int .u64 (b : Int), .int .u64 (e : Int)], .bool wh, .slice A1 pf.length c1, .slice A2 r.length c2] w fun en w' => ∃ B1 d1 B2 d2, en = .returned (.tuple #[.slice B1 (if wh then (r, r) else (pf.getD 0 [], pf.getD 0 [])).1.length d1, .slice B2 (if wh then (r, r) else (pf.getD 0 [], pf.getD 0 [])).2.length d2]) ∧ (if wh then (r, r) else (pf.getD 0 [], pf.getD 0 [])).1.length ≤ d1 ∧ CB w' B1 (if wh then (r, r) else (pf.getD 0 [], pf.getD 0 [])).1 ∧ (if wh then (r, r) else (pf.getD 0 [], pf.getD 0 [])).2.length ≤ d2 ∧ CB w' B2 (if wh then (r, r) else (pf.getD 0 [], pf.getD 0 [])).2 ∧ Below w.heap.size w w' := by
    intro b e wh pf w hb he64 hme hw hwh hpl h2 h1
    subst hme
    have hp := Nat.two_pow_pos sh
    have h64 : sh < 64 := (Nat.pow_lt_pow_iff_right (by omega : 1 < 2)).1 (show 2 ^ sh < 2 ^ 64 by omega)
    rw [hw, show x - b = 2 ^ sh - 1 by omega, vlen_pow sh _ h64 (by omega)] at hpl
    cases wh
    · rw [if_neg (by simp)]
      refine rootsIn_first a0 a1 a2 a3 a4 a5 (x + 1) b A1 c1 pf A2 c2 r.length ?_ w h1
      have hb0 : b ≠ 0 := fun h => by have := hwh.2 h; cases this
      rw [if_neg (by omega)] at hst
      omega
    · rw [if_pos rfl]
      exact rootsIn_whole a0 a1 a2 a3 a4 a5 (x + 1) b A1 c1 pf.length A2 c2 r hrc w h2
  have hg : ∀ (pf : List (List Int)) (k : Nat), (∀ h ∈ pf, h.length ≤ 5000) → (pf.getD k []).length ≤ 5000 := fun pf k hp => by
    rw [List.getD_eq_getElem?_getD]
    rcases h : pf[k]? with _ | y
    · simp
    · exact hp y (List.mem_of_getElem? h)
  intro T
  induction T with
  | zero =>
    intro b e wh pf w hT hb hx he ⟨u, c, hu, hc, hw⟩ hstop hwh hpl hp100 hpc hps h2 h1
    obtain rfl : u = 0 := by omega
    have e1 : e - b = 1 := by simp at hw; omega
    rw [rootsF]
    exact stop b e wh pf w hb he (by omega) (hstop (by omega)) hwh hpl h2 h1
  | succ T ih =>
    intro b e wh pf w hT hb hx he ⟨u, c, hu, hc, hw⟩ hstop hwh hpl hp100 hpc hps h2 h1
    rw [rootsF]
    by_cases hxe : x + 1 = e
    · rw [if_pos hxe]
      exact stop b e wh pf w hb he hxe (hstop hxe) hwh hpl h2 h1
    · rw [if_neg hxe]
      have n0 : e - b - 1 ≠ 0 := by omega
      have g1 : 2 ^ Nat.log2 (e - b - 1) < e - b := by
        have := Nat.log2_self_le n0
        omega
      have g2 : e - b ≤ 2 ^ (Nat.log2 (e - b - 1) + 1) := by
        have := Nat.lt_log2_self (n := e - b - 1)
        omega
      generalize Nat.log2 (e - b - 1) = t at g1 g2 ⊢
      have htu : t < u := (Nat.pow_lt_pow_iff_right (by omega : 1 < 2)).1 (Nat.lt_of_lt_of_le g1 hw)
      have hp := Nat.two_pow_pos t
      have hq : 2 ^ (t + 1) = 2 * 2 ^ t := by rw [Nat.pow_succ, Nat.mul_comm]
      have hcT : b = (c * 2 ^ (u - t)) * 2 ^ t := by rw [hc, Nat.mul_assoc, ← pow_add_mul t u (by omega)]
      have hsu : sh < u := low_lt hsd hb (by omega) hc hw
      have hdb : 2 ^ sh ∣ x + 1 - b := low_dvd hsd hc (by omega)
      have hsp : spec_split.f 100 ((e - b : Nat) : Int) = some ((2 ^ t : Nat) : Int) := split_go (e - b) t (by omega) g1 g2 t 0 100 (by omega) (by omega)
      have htk : ∀ k, ∀ h ∈ pf.take k, h.length ≤ 5000 := fun k h hh => hps h (List.mem_of_mem_take hh)
      have hst1 : st ≤ 1 := by rw [hst]; split <;> omega
      by_cases hlt : x + 1 ≤ b + 2 ^ t
      · rw [if_pos hlt]
        have hsht : sh ≤ t := by
          have := Nat.le_of_dvd (by omega) hdb
          exact (Nat.pow_le_pow_iff_right (by omega : 1 < 2)).1 (Nat.le_trans this (by omega))
        have hvl : vlen (x - b) (e - b) = t + 1 := vlen_left (by omega) (by omega) g1 g2 (by omega)
        have hlen : pf.length = (pf.length - 1) + 1 := by omega
        have hsl : (pf.take (pf.length - 1)).length = pf.length - 1 := by rw [List.length_take]; omega
        have hstop' : x + 1 = b + 2 ^ t → b + 2 ^ t - b = 2 ^ sh := fun hm => by
          have hle : ¬ sh < t := fun hlt' => by
            refine hsn ?_
            have d1 : 2 ^ (sh + 1) ∣ 2 ^ t := Nat.pow_dvd_pow 2 (by omega)
            rw [hm, hcT]
            exact Nat.dvd_add (Nat.dvd_trans d1 ⟨_, Nat.mul_comm _ _⟩) d1
          have : sh = t := by omega
          subst this
          omega
        obtain ⟨l1, l2⟩ := rootsF_len a0 a2 a5 (x + 1) T b (b + 2 ^ t) wh (pf.take (pf.length - 1)) r 100000 (htk _) hr (by omega)
        refine rootsIn_left a0 a1 a2 a3 a4 a5 (x + 1) b e (e - b) (2 ^ t) (pf.length - 1) wh A1 c1 pf A2 c2 r.length (rootsF a0 a2 a5 (x + 1) T b (b + 2 ^ t) wh (pf.take (pf.length - 1)) r).1 (rootsF a0 a2 a5 (x + 1) T b (b + 2 ^ t) wh (pf.take (pf.length - 1)) r).2 (by omega) (by omega) he (by omega) hxe (by omega) hsp hlt hlen (by omega) hpc w (hg pf _ hps) h1 fun W hW => ?_
        have := ih b (b + 2 ^ t) wh (pf.take (pf.length - 1)) W (by omega) hb (by omega) (by omega) ⟨t, _, by omega, hcT, by omega⟩ hstop' hwh (by rw [hsl, show b + 2 ^ t - b = 2 ^ t by omega, vlen_pow t (x - b) (by omega) (by omega)]; omega) (by omega) (by omega) (htk _) (Kd.C_below h2 hW) (Kd.C_take (Kd.C_below h1 hW) (by omega))
        rw [hsl] at this
        rw [show ((b : Int) + ((2 ^ t : Nat) : Int)) = ((b + 2 ^ t : Nat) : Int) by omega]
        exact this
      · rw [if_neg hlt]
        have hvl : vlen (x - b) (e - b) = vlen (x - b - 2 ^ t) (e - b - 2 ^ t) + 1 := vlen_right (by omega) (by omega) (by omega) g2
        have hdb' : 2 ^ sh ∣ x + 1 - (b + 2 ^ t) := by
          have hsht : sh ≤ t := by
            refine Nat.le_of_not_lt fun h => ?_
            have h1' : 2 ^ (t + 1) ≤ 2 ^ sh := Nat.pow_le_pow_right (by omega) (by omega)
            have h2' := Nat.le_of_dvd (by omega) hdb
            omega
          rw [show x + 1 - (b + 2 ^ t) = (x + 1 - b) - 2 ^ t by omega]
          exact Nat.dvd_sub hdb (Nat.pow_dvd_pow 2 hsht)
        have hbig : sh < inn (x - b - 2 ^ t) (e - b - 2 ^ t) := inn_big (by rw [show x - b - 2 ^ t + 1 = x + 1 - (b + 2 ^ t) by omega]; exact hdb') (by omega) (by omega)
        have hiv := inn_vlen (x - b - 2 ^ t) (e - b - 2 ^ t)
        have hlen : pf.length = (pf.length - 1) + 1 := by omega
        have hsl : (pf.take (pf.length - 1)).length = pf.length - 1 := by rw [List.length_take]; omega
        obtain ⟨l1, l2⟩ := rootsF_len a0 a2 a5 (x + 1) T (b + 2 ^ t) e false (pf.take (pf.length - 1)) r 100000 (htk _) hr (by omega)
        refine rootsIn_right a0 a1 a2 a3 a4 a5 (x + 1) b e (e - b) (2 ^ t) (pf.length - 1) wh A1 c1 pf A2 c2 r.length (rootsF a0 a2 a5 (x + 1) T (b + 2 ^ t) e false (pf.take (pf.length - 1)) r).1 (rootsF a0 a2 a5 (x + 1) T (b + 2 ^ t) e false (pf.take (pf.length - 1)) r).2 (by omega) (by omega) he (by omega) hxe (by omega) hsp (by omega) hlen (by omega) hpc w (hg pf _ hps) h1 fun W hW => ?_
        have := ih (b + 2 ^ t) e false (pf.take (pf.length - 1)) W (by omega) (by omega) hx he ⟨t, c * 2 ^ (u - t) + 1, by omega, by rw [Nat.add_mul, Nat.one_mul, ← hcT], by omega⟩ (fun h => absurd h hxe) ⟨fun h => (by cases h), fun h => absurd h (by omega)⟩ (by rw [hsl, show x - (b + 2 ^ t) = x - b - 2 ^ t by omega, show e - (b + 2 ^ t) = e - b - 2 ^ t by omega]; omega) (by omega) (by omega) (htk _) (Kd.C_below h2 hW) (Kd.C_take (Kd.C_below h1 hW) (by omega))
        rw [hsl] at this
        rw [show ((b : Int) + ((2 ^ t : Nat) : Int)) = ((b + 2 ^ t : Nat) : Int) by omega]
        exact this
end Go.Proofs.YtfhcpniibiobgaaDoor.Qf
