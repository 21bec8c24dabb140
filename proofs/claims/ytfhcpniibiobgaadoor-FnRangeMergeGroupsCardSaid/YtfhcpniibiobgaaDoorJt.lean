/- Several texts, joined. -/
import Derived.Test.YtfhcpniibiobgaaDoorRd
namespace Go.Proofs.YtfhcpniibiobgaaDoor.Qf
open Go.RowKit Go.Proofs.YtfhcpniibiobgaaDoorW.PrintWords Go.Proofs.YtfhcpniibiobgaaDoorW.PrintLast Go.Proofs.YtfhcpniibiobgaaDoorW.PrintMore
open Hs (CB CL at_L at_B infoB infoL R_of_blk)

theorem lrow_tail {S : Nat → Prop} {w : World} {A : Option Addr} {s : List Int} {m : List (List Int)} {d : Nat} (h : LRow S w A (s :: m)) (hd : m.length + 1 ≤ d) : LRow S w (if d = 1 then A else A.map (·.add (1 * 1))) m where
  get := fun j hj => by
    obtain ⟨ad, A0, c0, ea, e2, e3, e4, e5, e6⟩ := h.get (j + 1) (by simpa using hj)
    subst ea
    rw [if_neg (by omega)]
    rw [List.getD_cons_succ] at e2 e3 e4
    have hbk : (ad.add (1 * 1)).block = ad.block := by unfold Addr.add; split <;> rfl
    refine ⟨ad.add (1 * 1), A0, c0, rfl, ?_, e3, e4, by rw [hbk]; exact e5, by rw [hbk]; exact e6⟩
    rw [Addr.add_add, show 1 * 1 + j = j + 1 by omega]
    exact e2
set_option maxHeartbeats 1000000 in
set_option maxRecDepth 100000 in
theorem appendRange_nil (a0 a1 a2 a3 a4 a5 : Int) (w0 : World) (gr gf gs gy : Nat) (S : Nat → Prop) (w : World) (b e x : Nat) (vr vs : Value) (l : List (List Int)) (n0 d : Nat) (Ay : Option Addr) (h : RSt a0 a1 a2 a3 a4 a5 w0 gr gf gs S w (b : Int) (e : Int) vr vs l n0) (hy : w.heap[gy]? = some (.cells #[.pointer (some ⟨gf, 0, none⟩), .int .u64 (e : Int), .int .u64 (x : Int), .slice Ay 0 d] 151 (0, 0))) :
    Calls Tryd.prog 70 #[.pointer (some ⟨gr, 0, none⟩), .pointer (some ⟨gy, 0, none⟩), .func (.func 71) #[] #[.pointer (some ⟨gs, 0, none⟩)]] w fun en w' => en = .returned .nilIface ∧ Below w.heap.size w w' := by
  have hpn := ptr_neq gf
  have hee : ((e : Int) != (e : Int)) = false := by rw [bne_eq_false_iff_eq]
  have k0 : w.cell? ⟨gr, 0, none⟩ = some (.pointer (some ⟨gf, 0, none⟩)) := (blk_cell h.obj 0).trans rfl
  have k2 : w.cell? ⟨gr, 2, none⟩ = some (.int .u64 (e : Int)) := (blk_cell h.obj 2).trans rfl
  have y0 : w.cell? ⟨gy, 0, none⟩ = some (.pointer (some ⟨gf, 0, none⟩)) := (blk_cell hy 0).trans rfl
  have y1 : w.cell? ⟨gy, 1, none⟩ = some (.int .u64 (e : Int)) := (blk_cell hy 1).trans rfl
  have y2 : w.cell? ⟨gy, 2, none⟩ = some (.int .u64 (x : Int)) := (blk_cell hy 2).trans rfl
  have y3 : w.cell? ⟨gy, 3, none⟩ = some (.slice Ay 0 d) := (blk_cell hy 3).trans rfl
  clear h hy
  go_enter Tryd.func70, Tryd.ntmps70
  go_wp2
  go_quiet (fail)
  rename Nat => nq1
  go_wp2
  go_quiet (fail)
  rename Nat => nq2
  go_wp2
  go_ret
  exact ⟨rfl, by repeat (first | (with_reducible first | exact Below.refl _ _ | apply pw_below_drewN | apply below_drew1) | exact Below.refl _ _)⟩
set_option maxHeartbeats 4000000 in
set_option maxRecDepth 100000 in
theorem appendRange_of (a0 a1 a2 a3 a4 a5 : Int) (w0 : World) (gr gf gs gy : Nat) (S : Nat → Prop) (w : World) (b e x : Nat) (vr vs : Value) (l l' : List (List Int)) (n0 n1 : Nat) (ad : Addr) (d : Nat) (s : List Int) (m : List (List Int)) (h : RSt a0 a1 a2 a3 a4 a5 w0 gr gf gs S w (b : Int) (e : Int) vr vs l n0) (hy : w.heap[gy]? = some (.cells #[.pointer (some ⟨gf, 0, none⟩), .int .u64 (e : Int), .int .u64 (x : Int), .slice (some ad) (m.length + 1) d] 151 (0, 0))) (hyS : ¬ S gy) (hrow : LRow S w (some ad) (s :: m)) (hd : m.length + 1 ≤ d)
    (hA : ∀ (As : Option Addr) (cs : Nat) (w1 : World), s.length ≤ cs → RSt a0 a1 a2 a3 a4 a5 w0 gr gf gs S w1 (b : Int) (e : Int) vr vs l n0 → Safe S w1 As s → LRow S w1 (if d = 1 then some ad else (some ad).map (·.add (1 * 1))) m →
      Calls Tryd.prog 98 #[.pointer (some ⟨gr, 0, none⟩), .int .u64 (x : Int), .slice As s.length cs, .slice (if d = 1 then some ad else (some ad).map (·.add (1 * 1))) m.length (d - 1), .func (.func 71) #[] #[.pointer (some ⟨gs, 0, none⟩)]] w1 fun en w' => ∃ vr' vs' S', en = .returned .nilIface ∧ RSt a0 a1 a2 a3 a4 a5 w0 gr gf gs S' w' (b : Int) (x : Int) vr' vs' l' n1 ∧ Grows S S' w1 ∧ KeptS S' w1 w') :
    Calls Tryd.prog 70 #[.pointer (some ⟨gr, 0, none⟩), .pointer (some ⟨gy, 0, none⟩), .func (.func 71) #[] #[.pointer (some ⟨gs, 0, none⟩)]] w fun en w' => ∃ vr' vs' S', en = .returned .nilIface ∧ RSt a0 a1 a2 a3 a4 a5 w0 gr gf gs S' w' (b : Int) (x : Int) vr' vs' l' n1 ∧ Grows S S' w ∧ KeptS S' w w' := by
  obtain ⟨ad0, As, cs, ea0, hx0, hsl, hs, hrB, hrS⟩ := hrow.get 0 (by simp)
  injection ea0 with ea0
  subst ea0
  rw [List.getD_cons_zero] at hx0 hsl hs
  rw [Addr.add_zero'] at hx0
  have HR := Aside0.mk h
  have HY := Aside0.mk hy
  have HS := Aside0.mk hs
  have HA := Aside0.mk hA
  have HYS := Aside0.mk hyS
  have HRS := Aside0.mk hrS
  have HRB := Aside0.mk hrB
  have HSL := Aside0.mk hsl
  have HLT := Aside0.mk (lrow_tail hrow hd)
  obtain ⟨iL, hiL, hsL⟩ := Option.map_eq_some_iff.1 infoL
  obtain ⟨Ah, hAh⟩ : ∃ Ah, Ah = (if d = 1 then some ad else (some ad).map (·.add (1 * 1))) := ⟨_, rfl⟩
  rw [← hAh] at HLT HA
  have hcut : ∀ W : World, (Instr.slice 25 (.slice (some ad) (m.length + 1) d) (some (.int .i64 1)) none none).run Tryd.prog W = .ok (.slice Ah m.length (d - 1)) W := fun W => by
    have h := cut_from (P := Tryd.prog) 25 28 .i64 Tryd.underlying25 hiL 1 (by simp only [Prod.mk.injEq] at hsL; exact hsL.2.1) (some ad) (m.length + 1) d 1 (by omega) (by omega) W
    rw [hAh]
    exact h
  clear hiL hsL hs hA hyS hrS hrB hsl hrow hAh
  have hpn := ptr_neq gf
  have hee : ((e : Int) != (e : Int)) = false := by rw [bne_eq_false_iff_eq]
  have hne : (((m.length + 1 : Nat) : Int) == 0) = false := beq_eq_false_iff_ne.2 (by omega)
  have hne2 : (((m.length : Int) + 1) == 0) = false := beq_eq_false_iff_ne.2 (by omega)
  have hpos : (0 : Int) < ((m.length + 1 : Nat) : Int) := by omega
  have hpos2 : (0 : Int) < (m.length : Int) + 1 := by omega
  have k0 : w.cell? ⟨gr, 0, none⟩ = some (.pointer (some ⟨gf, 0, none⟩)) := (blk_cell h.obj 0).trans rfl
  have k2 : w.cell? ⟨gr, 2, none⟩ = some (.int .u64 (e : Int)) := (blk_cell h.obj 2).trans rfl
  have y0 : w.cell? ⟨gy, 0, none⟩ = some (.pointer (some ⟨gf, 0, none⟩)) := (blk_cell hy 0).trans rfl
  have y1 : w.cell? ⟨gy, 1, none⟩ = some (.int .u64 (e : Int)) := (blk_cell hy 1).trans rfl
  have y2 : w.cell? ⟨gy, 2, none⟩ = some (.int .u64 (x : Int)) := (blk_cell hy 2).trans rfl
  have y3 : w.cell? ⟨gy, 3, none⟩ = some (.slice (some ad) (m.length + 1) d) := (blk_cell hy 3).trans rfl
  clear h hy
  go_enter Tryd.func70, Tryd.ntmps70
  go_wp2
  go_quiet (fail)
  rename Nat => nq1
  go_wp2
  go_quiet (fail)
  rename Nat => nq2
  go_wp2
  have HBq := Aside0.mk (show Below w.heap.size w (w.drewN (nq1 + nq2)).drew by repeat (first | (with_reducible first | exact Below.refl _ _ | apply pw_below_drewN | apply below_drew1) | exact Below.refl _ _))
  have HRq := Aside0.mk (HR.out.step HBq.out)
  have HSq := Aside0.mk (HS.out.below HBq.out)
  have HLq := Aside0.mk (HLT.out.step (Grows.refl _ _) (KeptS.below HBq.out))
  have HYq := Aside0.mk (blk_below HY.out HBq.out)
  have hrowq := pw_cell_below HBq.out hx0
  have HKq : Aside0 (KeptS S w (w.drewN (nq1 + nq2)).drew) := ⟨KeptS.below HBq.out⟩
  have hszq : w.heap.size ≤ (w.drewN (nq1 + nq2)).drew.heap.size := HBq.out.size
  refine start_ (n := 19) (S := fun w' => w'.cell? ⟨gy, 2, none⟩ = some (.int .u64 (x : Int)) ∧ w'.cell? ⟨gy, 3, none⟩ = some (.slice (some ad) (m.length + 1) d) ∧ w'.cell? ad = some (.slice As s.length cs)) (ds := []) #[false, false, false, false, false, false, false, false, false, false, false, false, false, false, false, false, false, false, false] (by kernel_rfl) rfl rfl ⟨(blk_cell HYq.out 2).trans rfl, (blk_cell HYq.out 3).trans rfl, hrowq⟩ (fun hHeld => ?_)
  generalize (w.drewN (nq1 + nq2)).drew = wz at HBq HRq HSq HLq HYq HKq hszq hrowq hHeld ⊢
  clear k0 k2 y0 y1 y2 y3 hx0 HR HS HLT
  refine pure_ (i := 0) (N := some 37) (v := ?_) (a' := ?_) #[true, false, false, false, false, false, false, false, false, false, false, false, false, false, false, false, false, false, false] rfl rfl (by kernel_rfl) (fun _ _ _ h => h) (Or.inl ⟨by rfl, ?_⟩) ?_ ?_
  rotate_left
  · intro w'
    go_simp
    with_reducible rfl
  rotate_left
  · simp only [Act.put, List.setIfInBounds_toArray, List.set_cons_zero, List.set_cons_succ]
    rfl
  refine pure_ (i := 1) (N := some 38) (v := ?_) (a' := ?_) #[true, true, false, false, false, false, false, false, false, false, false, false, false, false, false, false, false, false, false] rfl rfl (by kernel_rfl) (fun _ _ _ h => h) (Or.inl ⟨by rfl, ?_⟩) ?_ ?_
  rotate_left
  · intro w'
    go_simp
    with_reducible rfl
  rotate_left
  · simp only [Act.put, List.setIfInBounds_toArray, List.set_cons_zero, List.set_cons_succ]
    rfl
  refine pure_ (i := 2) (N := some 39) (v := ?_) (a' := ?_) #[true, true, true, false, false, false, false, false, false, false, false, false, false, false, false, false, false, false, false] rfl rfl (by kernel_rfl) (fun _ _ _ h => h) (Or.inl ⟨by rfl, ?_⟩) ?_ ?_
  rotate_left
  · intro w'
    go_simp
    with_reducible rfl
  rotate_left
  · simp only [Act.put, List.setIfInBounds_toArray, List.set_cons_zero, List.set_cons_succ]
    rfl
  refine pure_ (i := 3) (N := some 40) (v := ?_) (a' := ?_) #[true, true, true, true, false, false, false, false, false, false, false, false, false, false, false, false, false, false, false] rfl rfl (by kernel_rfl) (fun _ _ _ h => h) (Or.inl ⟨by rfl, ?_⟩) ?_ ?_
  rotate_left
  · intro w'
    go_simp
    with_reducible rfl
  rotate_left
  · simp only [Act.put, List.setIfInBounds_toArray, List.set_cons_zero, List.set_cons_succ]
    rfl
  refine take_ (i := 4) (N := some 41) (v := ?_) (a' := ?_) #[true, true, true, true, true, false, false, false, false, false, false, false, false, false, false, false, false, false, false] rfl rfl (by kernel_rfl) (fun _ _ _ h => h) (Or.inl ⟨by rfl, ?_⟩) hHeld ?_ ?_
  rotate_left
  · rintro w' ⟨s0, s1, s2⟩
    go_simp
    with_reducible rfl
  rotate_left
  · simp only [Act.put, List.setIfInBounds_toArray, List.set_cons_zero, List.set_cons_succ]
    rfl
  refine pure_ (i := 5) (N := some 42) (v := ?_) (a' := ?_) #[true, true, true, true, true, true, false, false, false, false, false, false, false, false, false, false, false, false, false] rfl rfl (by kernel_rfl) (fun _ _ _ h => h) (Or.inl ⟨by rfl, ?_⟩) ?_ ?_
  rotate_left
  · intro w'
    go_simp
    with_reducible rfl
  rotate_left
  · simp only [Act.put, List.setIfInBounds_toArray, List.set_cons_zero, List.set_cons_succ]
    rfl
  refine pure_ (i := 6) (N := some 43) (v := ?_) (a' := ?_) #[true, true, true, true, true, true, true, false, false, false, false, false, false, false, false, false, false, false, false] rfl rfl (by kernel_rfl) (fun _ _ _ h => h) (Or.inl ⟨by rfl, ?_⟩) ?_ ?_
  rotate_left
  · intro w'
    go_simp
    with_reducible rfl
  rotate_left
  · simp only [Act.put, List.setIfInBounds_toArray, List.set_cons_zero, List.set_cons_succ]
    rfl
  refine pure_ (i := 7) (N := some 44) (v := ?_) (a' := ?_) #[true, true, true, true, true, true, true, true, false, false, false, false, false, false, false, false, false, false, false] rfl rfl (by kernel_rfl) (fun _ _ _ h => h) (Or.inl ⟨by rfl, ?_⟩) ?_ ?_
  rotate_left
  · intro w'
    go_simp
    with_reducible rfl
  rotate_left
  · simp only [Act.put, List.setIfInBounds_toArray, List.set_cons_zero, List.set_cons_succ]
    rfl
  refine take_ (i := 8) (N := some 45) (v := ?_) (a' := ?_) #[true, true, true, true, true, true, true, true, true, false, false, false, false, false, false, false, false, false, false] rfl rfl (by kernel_rfl) (fun _ _ _ h => h) (Or.inl ⟨by rfl, ?_⟩) hHeld ?_ ?_
  rotate_left
  · rintro w' ⟨s0, s1, s2⟩
    go_simp
    with_reducible rfl
  rotate_left
  · simp only [Act.put, List.setIfInBounds_toArray, List.set_cons_zero, List.set_cons_succ]
    rfl
  refine pure_ (i := 9) (N := some 46) (v := ?_) (a' := ?_) #[true, true, true, true, true, true, true, true, true, true, false, false, false, false, false, false, false, false, false] rfl rfl (by kernel_rfl) (fun _ _ _ h => h) (Or.inl ⟨by rfl, ?_⟩) ?_ ?_
  rotate_left
  · intro w'
    go_simp
    with_reducible rfl
  rotate_left
  · simp only [Act.put, List.setIfInBounds_toArray, List.set_cons_zero, List.set_cons_succ]
    rfl
  refine take_ (i := 10) (N := some 47) (v := ?_) (a' := ?_) #[true, true, true, true, true, true, true, true, true, true, true, false, false, false, false, false, false, false, false] rfl rfl (by kernel_rfl) (fun _ _ _ h => h) (Or.inl ⟨by rfl, ?_⟩) hHeld ?_ ?_
  rotate_left
  · rintro w' ⟨s0, s1, s2⟩
    go_simp
    with_reducible rfl
  rotate_left
  · simp only [Act.put, List.setIfInBounds_toArray, List.set_cons_zero, List.set_cons_succ]
    rfl
  refine pure_ (i := 11) (N := some 48) (v := ?_) (a' := ?_) #[true, true, true, true, true, true, true, true, true, true, true, true, false, false, false, false, false, false, false] rfl rfl (by kernel_rfl) (fun _ _ _ h => h) (Or.inl ⟨by rfl, ?_⟩) ?_ ?_
  rotate_left
  · intro w'
    go_simp
    with_reducible rfl
  rotate_left
  · simp only [Act.put, List.setIfInBounds_toArray, List.set_cons_zero, List.set_cons_succ]
    rfl
  refine pure_ (i := 12) (N := some 49) (v := ?_) (a' := ?_) #[true, true, true, true, true, true, true, true, true, true, true, true, true, false, false, false, false, false, false] rfl rfl (by kernel_rfl) (fun _ _ _ h => h) (Or.inl ⟨by rfl, ?_⟩) ?_ ?_
  rotate_left
  · intro w'
    go_simp
    with_reducible rfl
  rotate_left
  · simp only [Act.put, List.setIfInBounds_toArray, List.set_cons_zero, List.set_cons_succ]
    rfl
  refine pure_ (i := 13) (N := some 50) (v := ?_) (a' := ?_) #[true, true, true, true, true, true, true, true, true, true, true, true, true, true, false, false, false, false, false] rfl rfl (by kernel_rfl) (fun _ _ _ h => h) (Or.inl ⟨by rfl, ?_⟩) ?_ ?_
  rotate_left
  · intro w'
    go_simp
    with_reducible rfl
  rotate_left
  · simp only [Act.put, List.setIfInBounds_toArray, List.set_cons_zero, List.set_cons_succ]
    rfl
  refine take_ (i := 14) (N := some 51) (v := ?_) (a' := ?_) #[true, true, true, true, true, true, true, true, true, true, true, true, true, true, true, false, false, false, false] rfl rfl (by kernel_rfl) (fun _ _ _ h => h) (Or.inl ⟨by rfl, ?_⟩) hHeld ?_ ?_
  rotate_left
  · rintro w' ⟨s0, s1, s2⟩
    go_simp
    with_reducible rfl
  rotate_left
  · simp only [Act.put, List.setIfInBounds_toArray, List.set_cons_zero, List.set_cons_succ]
    rfl
  refine pure_ (i := 15) (N := some 52) (v := ?_) (a' := ?_) #[true, true, true, true, true, true, true, true, true, true, true, true, true, true, true, true, false, false, false] rfl rfl (by kernel_rfl) (fun _ _ _ h => h) (Or.inl ⟨by rfl, ?_⟩) ?_ ?_
  rotate_left
  · intro w'
    go_simp
    with_reducible rfl
  rotate_left
  · simp only [Act.put, List.setIfInBounds_toArray, List.set_cons_zero, List.set_cons_succ]
    rfl
  refine pure_ (i := 16) (N := some 53) (v := ?_) (a' := ?_) #[true, true, true, true, true, true, true, true, true, true, true, true, true, true, true, true, true, false, false] rfl rfl (by kernel_rfl) (fun _ _ _ h => h) (Or.inl ⟨by rfl, ?_⟩) ?_ ?_
  rotate_left
  · intro w'
    go_simp
    with_reducible rfl
  rotate_left
  · simp only [Act.put, List.setIfInBounds_toArray, List.set_cons_zero, List.set_cons_succ]
    rfl
  refine one_ (i := 17) (N := some 54) #[true, true, true, true, true, true, true, true, true, true, true, true, true, true, true, true, true, true, false] rfl rfl (by kernel_rfl) (by decide) (fun K hK => ?_)
  refine goes_ Tryd.func98 (by kernel_rfl) rfl #[.pointer (some ⟨gr, 0, none⟩), .int .u64 (x : Int), .slice As s.length cs, .slice Ah m.length (d - 1), .func (.func 71) #[] #[.pointer (some ⟨gs, 0, none⟩)]] (by rfl) rfl rfl (by (try simp only [List.map_toArray, List.map_cons, List.map_nil]); first | done | rfl) ?_
  refine (HA.out As cs wz HSL.out HRq.out HSq.out HLq.out).mono ?_
  rintro en w7 ⟨vr7, vs7, S7, rfl, hR7, hG7, hK7⟩
  refine ⟨_, rfl, ?_⟩
  have n7 : ∀ g, g < w.heap.size → ¬ S g → ¬ S7 g := fun g hg hn hs => by
    rcases hG7.2 g hs with h1 | h1
    · exact hn h1
    · omega
  have hyl := lt_of_block HY.out
  have HY7 := (hK7.block gy (by omega) (n7 gy hyl HYS.out)).trans HYq.out
  have hrow7 : w7.cell? ad = some (.slice As s.length cs) := by
    rw [← hrowq]
    unfold World.cell?
    rw [hK7.block ad.block (by have := HRB.out; omega) (n7 _ HRB.out HRS.out)]
  refine hK.out _ _ ⟨(blk_cell HY7 2).trans rfl, (blk_cell HY7 3).trans rfl, hrow7⟩ (fun hHeld => ?_)
  clear hK K
  refine norm_ (a' := ?_) ?_ ?_
  rotate_left
  · show Act.put _ (some 54) _ = _
    simp only [Act.put, List.setIfInBounds_toArray, List.set_cons_zero, List.set_cons_succ]
    rfl
  refine pure_ (i := 18) (N := some 6) (v := ?_) (a' := ?_) #[true, true, true, true, true, true, true, true, true, true, true, true, true, true, true, true, true, true, true] rfl rfl (by kernel_rfl) (fun _ _ _ h => h) (Or.inl ⟨by rfl, ?_⟩) ?_ ?_
  rotate_left
  · intro w'
    go_simp
    with_reducible rfl
  rotate_left
  · simp only [Act.put, List.setIfInBounds_toArray, List.set_cons_zero, List.set_cons_succ]
    rfl
  refine done_ (by kernel_rfl) ?_
  try go_wp2
  go_ret
  have hG : Grows S S7 w := ⟨hG7.1, fun i hi => (hG7.2 i hi).imp id fun h => Nat.le_trans hszq h⟩
  exact ⟨vr7, vs7, S7, rfl, hR7, hG, HKq.out.trans hG hK7⟩
end Go.Proofs.YtfhcpniibiobgaaDoor.Qf
namespace Go.Proofs.YtfhcpniibiobgaaDoor.Qf
open Go.RowKit Go.Proofs.YtfhcpniibiobgaaDoorW.PrintWords Go.Proofs.YtfhcpniibiobgaaDoorW.PrintLast Go.Proofs.YtfhcpniibiobgaaDoorW.PrintMore
open Hs (CB CL at_L at_B infoB infoL R_of_blk)
open Go.Proofs.YtfhcpniibiobgaaDoor.M (pc pc_add)

theorem allocs5 (w : World) (c1 : Array Value) (t1 : Nat) (c2 : Array Value) (t2 : Nat) (c3 : Array Value) (t3 : Nat) (c4 : Array Value) (t4 : Nat) (c5 : Array Value) (t5 : Nat) : Below w.heap.size w (((((w.alloc (.cells c1 t1)).alloc (.cells c2 t2)).alloc (.cells c3 t3)).alloc (.cells c4 t4)).alloc (.cells c5 t5)) ∧ (((((w.alloc (.cells c1 t1)).alloc (.cells c2 t2)).alloc (.cells c3 t3)).alloc (.cells c4 t4)).alloc (.cells c5 t5)).heap[w.heap.size]? = some (.cells c1 t1 (0, 0)) ∧ (((((w.alloc (.cells c1 t1)).alloc (.cells c2 t2)).alloc (.cells c3 t3)).alloc (.cells c4 t4)).alloc (.cells c5 t5)).heap[w.heap.size + 1]? = some (.cells c2 t2 (0, 0)) ∧ (((((w.alloc (.cells c1 t1)).alloc (.cells c2 t2)).alloc (.cells c3 t3)).alloc (.cells c4 t4)).alloc (.cells c5 t5)).heap[w.heap.size + 1 + 1]? = some (.cells c3 t3 (0, 0)) ∧ (((((w.alloc (.cells c1 t1)).alloc (.cells c2 t2)).alloc (.cells c3 t3)).alloc (.cells c4 t4)).alloc (.cells c5 t5)).heap[w.heap.size + 1 + 1 + 1]? = some (.cells c4 t4 (0, 0)) ∧ (((((w.alloc (.cells c1 t1)).alloc (.cells c2 t2)).alloc (.cells c3 t3)).alloc (.cells c4 t4)).alloc (.cells c5 t5)).heap[w.heap.size + 1 + 1 + 1 + 1]? = some (.cells c5 t5 (0, 0)) := by
  have s1 : (w.alloc (.cells c1 t1)).heap.size = w.heap.size + 1 := by simp
  have s2 : ((w.alloc (.cells c1 t1)).alloc (.cells c2 t2)).heap.size = w.heap.size + 1 + 1 := by simp
  have s3 : (((w.alloc (.cells c1 t1)).alloc (.cells c2 t2)).alloc (.cells c3 t3)).heap.size = w.heap.size + 1 + 1 + 1 := by simp
  have s4 : ((((w.alloc (.cells c1 t1)).alloc (.cells c2 t2)).alloc (.cells c3 t3)).alloc (.cells c4 t4)).heap.size = w.heap.size + 1 + 1 + 1 + 1 := by simp
  refine ⟨(below_alloc (below_alloc (below_alloc (below_alloc (below_alloc (Below.refl _ _) (.cells c1 t1)) (.cells c2 t2)) (.cells c3 t3)) (.cells c4 t4)) (.cells c5 t5)), ?_, ?_, ?_, ?_, ?_⟩
  · exact blk_below (heap_alloc_new w (.cells c1 t1)) (below_alloc (below_alloc (below_alloc (below_alloc (Below.refl _ _) (.cells c2 t2)) (.cells c3 t3)) (.cells c4 t4)) (.cells c5 t5))
  · have h := blk_below (heap_alloc_new (w.alloc (.cells c1 t1)) (.cells c2 t2)) (below_alloc (below_alloc (below_alloc (Below.refl _ _) (.cells c3 t3)) (.cells c4 t4)) (.cells c5 t5))
    rwa [s1] at h
  · have h := blk_below (heap_alloc_new ((w.alloc (.cells c1 t1)).alloc (.cells c2 t2)) (.cells c3 t3)) (below_alloc (below_alloc (Below.refl _ _) (.cells c4 t4)) (.cells c5 t5))
    rwa [s2] at h
  · have h := blk_below (heap_alloc_new (((w.alloc (.cells c1 t1)).alloc (.cells c2 t2)).alloc (.cells c3 t3)) (.cells c4 t4)) (below_alloc (Below.refl _ _) (.cells c5 t5))
    rwa [s3] at h
  · have h := blk_below (heap_alloc_new ((((w.alloc (.cells c1 t1)).alloc (.cells c2 t2)).alloc (.cells c3 t3)).alloc (.cells c4 t4)) (.cells c5 t5)) (Below.refl _ _)
    rwa [s4] at h

/-- What a right range makes of a range's hashes. -/
def MGen (a0 a1 a2 a3 a4 a5 : Int) (b e x : Nat) (l m0 l' : List (List Int)) : Prop :=
  (m0 = [] ∧ l' = l ∧ x = e) ∨ ∃ s m low hgh, m0 = s :: m ∧ compact_getMergePath.f (b : Int) (e : Int) (x : Int) = some (((low : Nat) : Int), ((hgh : Nat) : Int)) ∧
    ((hgh < low ∧ low ≤ 64 ∧ bits_OnesCount64.f (Go.bits .and .u64 ((e : Int) / 2 ^ low) 0) = some 0 ∧ l' = l ++ [s] ++ m) ∨
    ∃ (n o : Nat) (t : List Int), low + n = hgh ∧ hgh ≤ 64 ∧ o = pc n (e / 2 ^ low) ∧ o ≤ l.length ∧ n - o ≤ m.length ∧ bits_OnesCount64.f (Go.bits .and .u64 ((e : Int) / 2 ^ low) (IntKind.u64.wrap (IntKind.u64.wrap ((2 : Int) ^ n) - 1))) = some (o : Int) ∧ mrO a0 a1 a2 a3 a4 a5 l m (e / 2 ^ low) n s = some t ∧ l' = l.take (l.length - o) ++ [t] ++ m.drop (n - o))
theorem appendRange_any {a0 a1 a2 a3 a4 a5 : Int} {w0 : World} {gr gf gs gy : Nat} {S : Nat → Prop} {w : World} {b e x : Nat} {vr vs : Value} {l m0 l' : List (List Int)} {n0 d : Nat} {Ay : Option Addr} (hst : MGen a0 a1 a2 a3 a4 a5 b e x l m0 l') (h : RSt a0 a1 a2 a3 a4 a5 w0 gr gf gs S w (b : Int) (e : Int) vr vs l n0) (hy : w.heap[gy]? = some (.cells #[.pointer (some ⟨gf, 0, none⟩), .int .u64 (e : Int), .int .u64 (x : Int), .slice Ay m0.length d] 151 (0, 0))) (hyS : ¬ S gy) (hrow : LRow S w Ay m0) (hd : m0.length ≤ d) (HG_ : Glob w0) (he : e < 18446744073709551616) (hl : l.length ≤ 400) (hm : m0.length ≤ 400) (hn : n0 ≤ 400) :
    Calls Tryd.prog 70 #[.pointer (some ⟨gr, 0, none⟩), .pointer (some ⟨gy, 0, none⟩), .func (.func 71) #[] #[.pointer (some ⟨gs, 0, none⟩)]] w fun en w' => ∃ vr' vs' S' n1, en = .returned .nilIface ∧ RSt a0 a1 a2 a3 a4 a5 w0 gr gf gs S' w' (b : Int) (x : Int) vr' vs' l' n1 ∧ Grows S S' w ∧ KeptS S' w w' := by
  rcases hst with ⟨rfl, rfl, rfl⟩ | ⟨s, m, low, hgh, rfl, hmp, hc⟩
  · exact (appendRange_nil a0 a1 a2 a3 a4 a5 w0 gr gf gs gy S w b x x vr vs l' n0 d Ay h hy).mono fun _ _ ⟨h1, hb⟩ => ⟨vr, vs, S, n0, h1, h.step hb, Grows.refl _ _, KeptS.below hb⟩
  · obtain ⟨ad, _, _, rfl, _⟩ := hrow.get 0 (by simp)
    rw [List.length_cons] at hd hm
    rcases hc with ⟨h1, h2, h3, rfl⟩ | ⟨n, o, t, h1, h2, h3, h4, h5, h6, h7, rfl⟩
    · exact (appendRange_of a0 a1 a2 a3 a4 a5 w0 gr gf gs gy S w b e x vr vs l (l ++ [s] ++ m) n0 n0 ad d s m h hy hyS hrow hd (fun As cs w1 hsc hR hS hL => appendR_none a0 a1 a2 a3 a4 a5 w0 gr gf gs S w1 b e x vr vs l n0 As cs s _ (d - 1) m low hgh hR hS hsc hL (by omega) (by omega) HG_ hmp h1 h2 (by omega) h3)).mono fun _ _ ⟨v1, v2, S1, q⟩ => ⟨v1, v2, S1, n0, q⟩
    · exact (appendRange_of a0 a1 a2 a3 a4 a5 w0 gr gf gs gy S w b e x vr vs l (l.take (l.length - o) ++ [t] ++ m.drop (n - o)) n0 (n0 + n) ad d s m h hy hyS hrow hd (fun As cs w1 hsc hR hS hL => appendR_gen a0 a1 a2 a3 a4 a5 w0 gr gf gs S w1 b e x vr vs l n0 As cs s t _ (d - 1) m low hgh n o hR hS hsc hL (by omega) (by omega) HG_ he hmp (by omega) h1 h2 h3 h4 h5 (by omega) (by omega) h6 h7)).mono fun _ _ ⟨v1, v2, S1, q⟩ => ⟨v1, v2, S1, n0 + n, q⟩
theorem mf1R (first : Value) (W : World) : (Instr.makeFunc (.func 53) #[first] #[]).run Tryd.prog W = .ok (.func (.func 53) #[first] #[]) W := rfl
theorem mfR (cap : Value) (W : World) : (Instr.makeFunc (.func 71) #[] #[cap]).run Tryd.prog W = .ok (.func (.func 71) #[] #[cap]) W := rfl
set_option maxHeartbeats 4000000 in
set_option maxRecDepth 100000 in
theorem appendRange2_calls (a0 a1 a2 a3 a4 a5 : Int) (b e E1 : Nat) (A : Option Addr) (c : Nat) (l0 : List (List Int)) (Am : Option Addr) (cm : Nat) (m0 : List (List Int)) (l' : List (List Int)) (k : Nat) (w : World) (hc : l0.length ≤ c) (hcm : m0.length ≤ cm) (hl : CL w A l0) (hM : CL w Am m0) (HG_ : Glob w) (ht0 : impl_texts.f k l0 = some l0) (htM : impl_texts.f k m0 = some m0) (hte : impl_texts.f k l' = some l') (hbe : b ≤ e) (hex : e ≤ E1) (hsz : compact_RangeSize.f (b : Int) (e : Int) = some (l0.length : Int)) (hsz1 : compact_RangeSize.f (e : Int) (E1 : Int) = some (m0.length : Int)) (he : e < 18446744073709551616) (hl0 : l0.length ≤ 400) (hm0 : m0.length ≤ 400) (hst : MGen a0 a1 a2 a3 a4 a5 b e E1 l0 m0 l') :
    Calls Tryd.prog 33 #[.agg #[.int .i64 a0, .int .i64 a1, .int .i64 a2, .int .u64 a3, .int .u64 a4, .int .u64 a5], .agg #[.int .u64 (b : Nat), .int .u64 (e : Nat), .slice A l0.length c], .agg #[.int .u64 (e : Nat), .int .u64 (E1 : Nat), .slice Am m0.length cm]] w fun en w' => ∃ v vs, en = .returned (.tuple #[.agg #[.int .u64 (b : Nat), .int .u64 (E1 : Nat), v], vs, .bool true]) ∧ Kd.S (Kd.slice 5 (Kd.int .u8)) 28 w' w.heap.size (fun _ => True) v l' ∧ Below w.heap.size w w' := by
  have HL := Aside0.mk hl
  have HM := Aside0.mk hM
  have HG := Aside0.mk HG_
  have HT0 := Aside0.mk ht0
  have HTM := Aside0.mk htM
  have HTE := Aside0.mk hte
  have HSZ := Aside0.mk hsz
  have HS1 := Aside0.mk hsz1
  have HE := Aside0.mk he
  have HST := Aside0.mk hst
  have HBE := Aside0.mk hbe
  have HL0 := Aside0.mk hl0
  have HM0 := Aside0.mk hm0
  have HEE := Aside0.mk hex
  clear hl hM HG_ ht0 htM hte hsz hsz1 hst hbe hl0 hm0 hex he
  have hmf1 := mf1R
  have hmfR := mfR
  go_enter Tryd.func33, Tryd.ntmps33
  go_wp2
  obtain ⟨hB1, _, hRB, hOB, hQB, hFB⟩ := allocs5 w #[.int .i64 a0, .int .i64 a1, .int .i64 a2, .int .u64 a3, .int .u64 a4, .int .u64 a5] 24 #[.int .u64 (b : Nat), .int .u64 (e : Nat), .slice A l0.length c] 35 #[.int .u64 (e : Nat), .int .u64 (E1 : Nat), .slice Am m0.length cm] 35 #[.int .u64 0, .int .u64 0, .slice none 0 0] 35 #[.func (.func 53) #[.agg #[.int .i64 a0, .int .i64 a1, .int .i64 a2, .int .u64 a3, .int .u64 a4, .int .u64 a5]] #[]] 100
  generalize hW1 : (((((w.alloc (.cells #[.int .i64 a0, .int .i64 a1, .int .i64 a2, .int .u64 a3, .int .u64 a4, .int .u64 a5] 24)).alloc (.cells #[.int .u64 (b : Nat), .int .u64 (e : Nat), .slice A l0.length c] 35)).alloc (.cells #[.int .u64 (e : Nat), .int .u64 (E1 : Nat), .slice Am m0.length cm] 35)).alloc (.cells #[.int .u64 0, .int .u64 0, .slice none 0 0] 35)).alloc (.cells #[.func (.func 53) #[.agg #[.int .i64 a0, .int .i64 a1, .int .i64 a2, .int .u64 a3, .int .u64 a4, .int .u64 a5]] #[]] 100)) = W1 at hB1 hRB hOB hQB hFB ⊢
  have hsz1 : w.heap.size + 1 + 1 + 1 + 1 < W1.heap.size := lt_of_block hFB
  have HB1 := Aside0.mk hB1
  have RB := Aside0.mk hRB
  have OB := Aside0.mk hOB
  have QB := Aside0.mk hQB
  have FB := Aside0.mk hFB
  clear hB1 hRB hOB hQB hFB hW1
  have HL1 := Aside0.mk (Kd.C_below HL.out HB1.out)
  have r0 : W1.cell? ⟨w.heap.size + 1, 0, none⟩ = some (.int .u64 (b : Nat)) := (blk_cell RB.out 0).trans rfl
  have r1 : W1.cell? ⟨w.heap.size + 1, 1, none⟩ = some (.int .u64 (e : Nat)) := (blk_cell RB.out 1).trans rfl
  have r2 : W1.cell? ⟨w.heap.size + 1, 2, none⟩ = some (.slice A l0.length c) := (blk_cell RB.out 2).trans rfl
  go_region_held3 (fun w' => w'.cell? ⟨w.heap.size + 1, 0, none⟩ = some (.int .u64 (b : Nat)) ∧ w'.cell? ⟨w.heap.size + 1, 1, none⟩ = some (.int .u64 (e : Nat)) ∧ w'.cell? ⟨w.heap.size + 1, 2, none⟩ = some (.slice A l0.length c) ∧ Below W1.heap.size W1 w')
    (((try dsimp only); (try go_split_ands); (repeat' apply And.intro) <;> first | (go_keep; done) | exact below_drew (Below.refl _ _) | (refine pw_cell_below hb ?_; assumption) | (refine below_then ?_ ?_ hb; assumption; exact Below.size (by assumption))))
    (first
      | (go_at_call 48; have hB0 := Aside0.mk (show Below W1.heap.size W1 _ by go_split_ands; assumption); refine (impl_texts.calls k A c l0 l0 _ (Kd.C_below HL1.out hB0.out) hc HT0.out).mono ?_; rintro e' w2 ⟨v1, rfl, hS, hb⟩; obtain ⟨B2, d2, rfl, _, _⟩ := Kd.S_reads hS; have HS2 := Aside0.mk (Kd.S_lower hS hB0.out.size); have HB2 := Aside0.mk (below_then hB0.out hB0.out.size hb); clear hS)
      | (go_at_call 54; refine (newRange_calls (w.heap.size + 1 + 1 + 1 + 1) b e B2 l0.length d2 HBE.out HSZ.out _).mono ?_; rintro e' w3 ⟨g, rfl, hg1, hg2, hg3, hb⟩; have HG1 := Aside0.mk hg1; have HG2 := Aside0.mk hg2; have HG3 := Aside0.mk hg3; have HB23 := Aside0.mk hb; clear hg3 hg1 hg2))
  go_split_ands
  clear r0 r1 r2
  have HB3 : Aside0 (Below W1.heap.size W1 w3) := ⟨by assumption⟩
  go_wp2
  have HM3 := Aside0.mk (Kd.C_below HM.out (below_then HB1.out HB1.out.size HB3.out))
  have r0 : w3.cell? ⟨w.heap.size + 1 + 1, 0, none⟩ = some (.int .u64 (e : Nat)) := (blk_cell (blk_below OB.out HB3.out) 0).trans rfl
  have r1 : w3.cell? ⟨w.heap.size + 1 + 1, 1, none⟩ = some (.int .u64 (E1 : Nat)) := (blk_cell (blk_below OB.out HB3.out) 1).trans rfl
  have r2 : w3.cell? ⟨w.heap.size + 1 + 1, 2, none⟩ = some (.slice Am m0.length cm) := (blk_cell (blk_below OB.out HB3.out) 2).trans rfl
  go_region_held3 (fun w' => w'.cell? ⟨w.heap.size + 1 + 1, 0, none⟩ = some (.int .u64 (e : Nat)) ∧ w'.cell? ⟨w.heap.size + 1 + 1, 1, none⟩ = some (.int .u64 (E1 : Nat)) ∧ w'.cell? ⟨w.heap.size + 1 + 1, 2, none⟩ = some (.slice Am m0.length cm) ∧ Below w3.heap.size w3 w')
    (((try dsimp only); (try go_split_ands); (repeat' apply And.intro) <;> first | (go_keep; done) | exact below_drew (Below.refl _ _) | (refine pw_cell_below hb ?_; assumption) | (refine below_then ?_ ?_ hb; assumption; exact Below.size (by assumption))))
    (first
      | (go_at_call 48; have hB0 := Aside0.mk (show Below w3.heap.size w3 _ by go_split_ands; assumption); refine (impl_texts.calls k Am cm m0 m0 _ (Kd.C_below HM3.out hB0.out) hcm HTM.out).mono ?_; rintro e' w4 ⟨v4, rfl, hS, hb⟩; obtain ⟨B4, d4, rfl, hd4, _⟩ := Kd.S_reads hS; have HS4 := Aside0.mk (Kd.S_lower hS hB0.out.size); have HB4 := Aside0.mk (below_then hB0.out hB0.out.size hb); have HD4 := Aside0.mk hd4; clear hS hd4)
      | (go_at_call 54; refine (newRange_calls (w.heap.size + 1 + 1 + 1 + 1) e E1 B4 m0.length d4 HEE.out HS1.out _).mono ?_; rintro e' w5 ⟨gy, rfl, hg1, hg2, hg3, hb⟩; have HY1 := Aside0.mk hg1; have HY2 := Aside0.mk hg2; have HY3 := Aside0.mk hg3; have HB45 := Aside0.mk hb; clear hg3 hg1 hg2))
  go_split_ands
  clear r0 r1 r2
  have HB5 : Aside0 (Below w3.heap.size w3 w5) := ⟨by assumption⟩
  have HB25 := Aside0.mk (below_step HB23.out HB5.out)
  have HI := Aside0.mk (RSt.init HB1.out FB.out HS2.out HB2.out HG1.out (Nat.lt_of_lt_of_le HG2.out HB5.out.size) (blk_below HG3.out HB5.out) HB25.out)
  have own2 : ∀ q, (Value.slice B2 l0.length d2).ownBlock = some q → W1.heap.size ≤ q ∧ q < w2.heap.size := fun q hq => ⟨Kd.S_base HS2.out _ hq, Kd.R_lt (Kd.S_R HS2.out) q hq⟩
  have s12 := HB2.out.size
  have s23 := HB23.out.size
  have s34 := HB4.out.size
  have s45 := HB45.out.size
  have HNG : Aside0 (¬ (w.heap.size + 1 + 1 + 1 = g ∨ w.heap.size + 1 + 1 + 1 = w5.heap.size ∨ (Value.slice B2 l0.length d2).ownBlock = some (w.heap.size + 1 + 1 + 1))) := ⟨fun hk => by
    have q1 := HG1.out
    rcases hk with h1 | h1 | hk
    · omega
    · omega
    · have := (own2 _ hk).1
      omega⟩
  have HNY : Aside0 (¬ (gy = g ∨ gy = w5.heap.size ∨ (Value.slice B2 l0.length d2).ownBlock = some gy)) := ⟨fun hk => by
    have q1 := HG2.out
    have q2 := HY1.out
    have q3 := HY2.out
    rcases hk with h1 | h1 | hk
    · omega
    · omega
    · have := (own2 _ hk).2
      omega⟩
  have hb58 : Below w5.heap.size w5 (w5.alloc (.cells #[.slice none 0 0] 37)) := below_alloc (Below.refl w5.heap.size w5) _
  obtain ⟨A4, c4, eA4, hc4, hLR⟩ := LRow.new (S := fun q => q = g ∨ (Value.slice B2 l0.length d2).ownBlock = some q) (fun q hq => by
    rcases hq with h1 | h1
    · rw [h1]
      exact HG2.out
    · have := (own2 _ h1).2
      omega) HS4.out
  injection eA4 with eA4 _ ec4
  subst eA4 ec4
  have hLR8 := hLR.step (S' := fun q => q = g ∨ q = w5.heap.size ∨ (Value.slice B2 l0.length d2).ownBlock = some q) ⟨fun q hq => hq.imp id .inr, fun q hq => by
    rcases hq with h1 | h1 | h1
    · exact .inl (.inl h1)
    · exact .inr (by omega)
    · exact .inl (.inr h1)⟩ (KeptS.below (below_step HB45.out hb58))
  have HLR8 := Aside0.mk hLR8
  have HY8 := Aside0.mk (blk_below HY3.out hb58)
  have QB8 := Aside0.mk (blk_below (blk_below (blk_below QB.out HB3.out) HB5.out) hb58)
  have hsize : (w5.alloc (.cells #[.slice none 0 0] 37)).heap.size = w5.heap.size + 1 := by simp
  clear hLR hLR8 hb58 own2
  go_wp2_with (first
    | (go_at_call 70; (with_reducible refine (appendRange_any (gr := g) (gf := w.heap.size + 1 + 1 + 1 + 1) (gs := w5.heap.size) (gy := gy) HST.out HI.out HY8.out HNY.out HLR8.out HD4.out HG.out HE.out HL0.out HM0.out (by omega)).mono ?_); rintro en w9 ⟨vr9, vs9, S9, n9, rfl, hR9, hG9, hK9⟩; have HR := Aside0.mk hR9; have HNG9 : Aside0 (¬ S9 (w.heap.size + 1 + 1 + 1)) := ⟨fun hs => by (rcases hG9.2 _ hs with h1 | h1); (exact HNG.out h1); omega⟩; have QB9 := Aside0.mk ((hK9.block _ (lt_of_block QB8.out) HNG9.out).trans QB8.out); clear hR9 hG9 hK9))

  generalize hgq : w.heap.size + 1 + 1 + 1 = gq at HNG9 QB9 ⊢
  have hgq0 : w.heap.size ≤ gq := by omega
  generalize w5.heap.size = gs at HR ⊢
  have HRy := Aside0.mk (HR.out.step (below_drew (Below.refl w9.heap.size w9)))
  have QBy := Aside0.mk (blk_drew QB9.out)
  refine start_ (n := 6) (S := fun w' => w'.cell? ⟨gs, 0, none⟩ = some vs9) (ds := []) #[false, false, false, false, false, false] (by kernel_rfl) rfl rfl ((blk_cell HRy.out.seen 0).trans rfl) (fun hHeld => ?_)
  generalize w9.drew = wz at HRy QBy hHeld ⊢
  clear HR QB9
  obtain ⟨Ar, cr, hvr, hcr, hCL⟩ := HRy.out.rows.cl
  subst hvr
  have HCL := Aside0.mk hCL
  have HCR := Aside0.mk hcr
  clear hCL hcr
  refine pure_ (i := 0) (N := some 56) (v := ?_) (a' := ?_) #[true, false, false, false, false, false] rfl rfl (by kernel_rfl) (fun _ _ _ h => h) (Or.inl ⟨by rfl, ?_⟩) ?_ ?_
  rotate_left
  · intro w'
    go_simp
    with_reducible rfl
  rotate_left
  · simp only [Act.put, List.setIfInBounds_toArray, List.set_cons_zero, List.set_cons_succ]
    rfl
  refine take_ (i := 2) (N := some 58) (v := ?_) (a' := ?_) #[true, false, true, false, false, false] rfl rfl (by kernel_rfl) (fun _ _ _ h => h) (Or.inl ⟨by rfl, ?_⟩) hHeld ?_ ?_
  rotate_left
  · rintro w' s0
    go_simp
    with_reducible rfl
  rotate_left
  · simp only [Act.put, List.setIfInBounds_toArray, List.set_cons_zero, List.set_cons_succ]
    rfl
  refine one_ (i := 1) (N := some 57) #[true, true, true, false, false, false] rfl rfl (by kernel_rfl) (by decide) (fun K hK => ?_)
  refine goes_ Tryd.func65 (by kernel_rfl) rfl #[.pointer (some ⟨g, 0, none⟩)] (by rfl) rfl rfl (by (try simp only [List.map_toArray, List.map_cons, List.map_nil]); first | done | rfl) ?_
  refine (fromRange_calls g _ (b : Int) (E1 : Int) Ar cr l' k _ HRy.out.obj HCL.out HCR.out HTE.out).mono ?_
  rintro e' w7 ⟨v7, rfl, hS7, hb⟩
  refine ⟨_, rfl, ?_⟩
  obtain ⟨A7, d7, rfl, _, _⟩ := Kd.S_reads hS7
  have SN7 := Aside0.mk (blk_below HRy.out.seen hb)
  have Q7 := Aside0.mk (blk_below QBy.out hb)
  have B7 := Aside0.mk (below_step HRy.out.below hb)
  have HS7 := Aside0.mk (Kd.S_lower hS7 HRy.out.below.size)
  have HGQ : Aside0 (gs ≠ gq) := ⟨fun he => HNG9.out (he ▸ HRy.out.sseen)⟩
  clear hS7 hb HRy QBy HCL HCR
  refine hK.out _ _ ((blk_cell SN7.out 0).trans rfl) (fun hHeld => ?_)
  clear hK K
  refine norm_ (a' := ?_) ?_ ?_
  rotate_left
  · show Act.put _ (some 57) _ = _
    simp only [Act.put, List.setIfInBounds_toArray, List.set_cons_zero, List.set_cons_succ]
    rfl
  have c0 : w7.cell? ⟨gq, 0, none⟩ = some (.int .u64 0) := (blk_cell Q7.out 0).trans rfl
  have c1 : w7.cell? ⟨gq, 1, none⟩ = some (.int .u64 0) := (blk_cell Q7.out 1).trans rfl
  have c2 : w7.cell? ⟨gq, 2, none⟩ = some (.slice none 0 0) := (blk_cell Q7.out 2).trans rfl
  have f0 : w7.frozen? ⟨gq, 0, none⟩ = false := blk_frozen Q7.out 0
  have SK5 : Aside0 ((w7.setCell ⟨gq, 0, none⟩ (.int .u64 (b : Int))).heap[gq]? = some (.cells #[.int .u64 (b : Int), .int .u64 0, .slice none 0 0] 35 (0, 0))) := ⟨blk_set Q7.out 0 _⟩
  have f1 : (w7.setCell ⟨gq, 0, none⟩ (.int .u64 (b : Int))).frozen? ⟨gq, 1, none⟩ = false := blk_frozen SK5.out 1
  have SK6 : Aside0 (((w7.setCell ⟨gq, 0, none⟩ (.int .u64 (b : Int))).setCell ⟨gq, 1, none⟩ (.int .u64 (E1 : Int))).heap[gq]? = some (.cells #[.int .u64 (b : Int), .int .u64 (E1 : Int), .slice none 0 0] 35 (0, 0))) := ⟨blk_set SK5.out 1 _⟩
  have f2 : ((w7.setCell ⟨gq, 0, none⟩ (.int .u64 (b : Int))).setCell ⟨gq, 1, none⟩ (.int .u64 (E1 : Int))).frozen? ⟨gq, 2, none⟩ = false := blk_frozen SK6.out 2
  have SK7 : Aside0 ((((w7.setCell ⟨gq, 0, none⟩ (.int .u64 (b : Int))).setCell ⟨gq, 1, none⟩ (.int .u64 (E1 : Int))).setCell ⟨gq, 2, none⟩ (.slice A7 l'.length d7)).heap[gq]? = some (.cells #[.int .u64 (b : Int), .int .u64 (E1 : Int), (.slice A7 l'.length d7)] 35 (0, 0))) := ⟨blk_set SK6.out 2 _⟩
  have g0 : (((w7.setCell ⟨gq, 0, none⟩ (.int .u64 (b : Int))).setCell ⟨gq, 1, none⟩ (.int .u64 (E1 : Int))).setCell ⟨gq, 2, none⟩ (.slice A7 l'.length d7)).cell? ⟨gq, 0, none⟩ = some (.int .u64 (b : Int)) := (blk_cell SK7.out 0).trans rfl
  have g1 : (((w7.setCell ⟨gq, 0, none⟩ (.int .u64 (b : Int))).setCell ⟨gq, 1, none⟩ (.int .u64 (E1 : Int))).setCell ⟨gq, 2, none⟩ (.slice A7 l'.length d7)).cell? ⟨gq, 1, none⟩ = some (.int .u64 (E1 : Int)) := (blk_cell SK7.out 1).trans rfl
  have g2 : (((w7.setCell ⟨gq, 0, none⟩ (.int .u64 (b : Int))).setCell ⟨gq, 1, none⟩ (.int .u64 (E1 : Int))).setCell ⟨gq, 2, none⟩ (.slice A7 l'.length d7)).cell? ⟨gq, 2, none⟩ = some ((.slice A7 l'.length d7)) := (blk_cell SK7.out 2).trans rfl
  have s3 : (((w7.setCell ⟨gq, 0, none⟩ (.int .u64 (b : Int))).setCell ⟨gq, 1, none⟩ (.int .u64 (E1 : Int))).setCell ⟨gq, 2, none⟩ (.slice A7 l'.length d7)).cell? ⟨gs, 0, none⟩ = some vs9 := (blk_cell ((Below.heap_setCell _ _ _ gs HGQ.out).trans ((Below.heap_setCell _ _ _ gs HGQ.out).trans ((Below.heap_setCell _ _ _ gs HGQ.out).trans SN7.out))) 0).trans rfl
  clear hHeld
  refine one_ (i := 3) (N := none) #[true, true, true, true, false, false] rfl rfl (by kernel_rfl) (by decide) (fun K hK => ?_)
  refine store_step rfl (w1 := (((w7.setCell ⟨gq, 0, none⟩ (.int .u64 (b : Int))).setCell ⟨gq, 1, none⟩ (.int .u64 (E1 : Int))).setCell ⟨gq, 2, none⟩ (.slice A7 l'.length d7))) (by first | (go_simp; done) | (go_simp; rfl) | (go_simp; exact ⟨rfl, rfl⟩)) ?_
  refine hK.out _ _ s3 (fun hHeld => ?_)
  clear hK K
  refine norm_ (a' := ?_) ?_ ?_
  rotate_left
  · show Act.put _ none _ = _
    first | rfl | (simp only [Act.put]; rfl) | simp only [Act.put]
  refine pure_ (i := 4) (N := some 7) (v := ?_) (a' := ?_) #[true, true, true, true, true, false] rfl rfl (by kernel_rfl) (fun _ _ _ h => h) (Or.inl ⟨by rfl, ?_⟩) ?_ ?_
  rotate_left
  · intro w'
    go_simp
    with_reducible rfl
  rotate_left
  · simp only [Act.put, List.setIfInBounds_toArray, List.set_cons_zero, List.set_cons_succ]
    rfl
  refine pure_ (i := 5) (N := some 8) (v := ?_) (a' := ?_) #[true, true, true, true, true, true] rfl rfl (by kernel_rfl) (fun _ _ _ h => h) (Or.inl ⟨by rfl, ?_⟩) ?_ ?_
  rotate_left
  · intro w'
    go_simp
    with_reducible rfl
  rotate_left
  · simp only [Act.put, List.setIfInBounds_toArray, List.set_cons_zero, List.set_cons_succ]
    rfl
  refine done_ (by kernel_rfl) ?_
  try go_wp2
  refine bodyPost_ret (v := .tuple #[.agg #[.int .u64 (b : Int), .int .u64 (E1 : Int), (.slice A7 l'.length d7)], vs9, .bool true]) (by simp [results, Tryd.results33, go_sem, g0, g1, g2]) rfl ⟨_, _, rfl, ?_, ?_⟩
  · exact Kd.S_set (Kd.S_set (Kd.S_set HS7.out Q7.out (by decide) 0 _) SK5.out (by decide) 1 _) SK6.out (by decide) 2 _
  · exact Below.setCell (Below.setCell (Below.setCell B7.out hgq0 _) hgq0 _) hgq0 _
end Go.Proofs.YtfhcpniibiobgaaDoor.Qf
