/- Several texts, joined. -/
import Derived.Test.YtfhcpniibiobgaaDoorJd
import Derived.Test.YtfhcpniibiobgaaDoorDj
import Derived.Test.YtfhcpniibiobgaaDoorJp
namespace Go.Proofs.YtfhcpniibiobgaaDoor.Qf
open Go.RowKit Go.Proofs.YtfhcpniibiobgaaDoorW.PrintWords Go.Proofs.YtfhcpniibiobgaaDoorW.PrintLast Go.Proofs.YtfhcpniibiobgaaDoorW.PrintMore
open Hs (CB CL at_L at_B infoB infoL R_of_blk)

set_option maxHeartbeats 4000000 in
set_option maxRecDepth 100000 in
theorem implVI_of (a0 a1 a2 a3 a4 a5 ix sz : Int) (A1 : Option Addr) (c1 : Nat) (l1 : List Int) (A2 : Option Addr) (c2 : Nat) (L : List (List Int)) (A3 : Option Addr) (c3 : Nat) (l3 : List Int) (w : World)
    (h1 : CB w A1 l1) (h2 : CL w A2 L) (h3 : CB w A3 l3) (hl1 : l1.length ≤ 140737488351232) (hl3 : l3.length ≤ 140737488351232) (hc2 : L.length ≤ c2) (k : Nat) (htx : impl_texts.f k L = some L) (r1 : Int) (r2 : List Int)
    (hv : ∀ (W : World) (B1 : Option Addr) (d1 : Nat) (B2 : Option Addr) (d2 : Nat) (B3 : Option Addr) (d3 : Nat), CB W B1 l1 → l1.length ≤ d1 → CL W B2 L → L.length ≤ d2 → CB W B3 l3 → l3.length ≤ d3 →
      Calls Tryd.prog 78 #[toyV a0 a1 a2 a3 a4 a5, .int .u64 ix, .int .u64 sz, .slice B1 l1.length d1, .slice B2 L.length d2, .slice B3 l3.length d3] W fun e W' => ∃ v, e = .returned v ∧ Below W.heap.size W W' ∧
        Calls Tryd.prog 59 #[v] W' fun e' W'' => ∃ v2, e' = .returned (.tuple #[.int .i64 r1, v2]) ∧ Kd.R (Kd.int .u8) 5 W'' W'.heap.size (fun _ => True) v2 r2 ∧ Below W'.heap.size W' W'') :
    Calls Tryd.prog 38 #[.agg #[.int .i64 a0, .int .i64 a1, .int .i64 a2, .int .u64 a3, .int .u64 a4, .int .u64 a5], .int .u64 ix, .int .u64 sz, .slice A1 l1.length c1, .slice A2 L.length c2, .slice A3 l3.length c3] w fun e w' => ∃ v2, e = .returned (.tuple #[.int .i64 r1, v2]) ∧ Kd.R (Kd.int .u8) 5 w' w.heap.size (fun _ => True) v2 r2 ∧ Below w.heap.size w w' := by
  have H1 := Aside0.mk h1
  have H2 := Aside0.mk h2
  have H3 := Aside0.mk h3
  have HV := Aside0.mk hv
  clear h1 h2 h3 hv
  go_enter Tryd.func38, Tryd.ntmps38
  try go_wp2_with (fail)
  have BK : Aside0 (((w.alloc (.cells #[.int .i64 a0, .int .i64 a1, .int .i64 a2, .int .u64 a3, .int .u64 a4, .int .u64 a5] 24)).drew).heap[w.heap.size]? = some (.cells #[.int .i64 a0, .int .i64 a1, .int .i64 a2, .int .u64 a3, .int .u64 a4, .int .u64 a5] 24 (0, 0))) := ⟨blk_drew (heap_alloc_new w _)⟩
  have HB := Aside0.mk (below_drew1 (below_alloc (Below.refl w.heap.size w) (.cells #[.int .i64 a0, .int .i64 a1, .int .i64 a2, .int .u64 a3, .int .u64 a4, .int .u64 a5] 24)))
  refine start_ (n := 19) (S := fun w' => w'.cell? ⟨w.heap.size, 0, none⟩ = some (.int .i64 a0) ∧ w'.cell? ⟨w.heap.size, 1, none⟩ = some (.int .i64 a1) ∧ w'.cell? ⟨w.heap.size, 2, none⟩ = some (.int .i64 a2) ∧ w'.cell? ⟨w.heap.size, 3, none⟩ = some (.int .u64 a3) ∧ w'.cell? ⟨w.heap.size, 4, none⟩ = some (.int .u64 a4) ∧ w'.cell? ⟨w.heap.size, 5, none⟩ = some (.int .u64 a5)) (ds := []) #[false, false, false, false, false, false, false, false, false, false, false, false, false, false, false, false, false, false, false] (by kernel_rfl) rfl rfl ⟨(blk_cell BK.out 0).trans rfl, (blk_cell BK.out 1).trans rfl, (blk_cell BK.out 2).trans rfl, (blk_cell BK.out 3).trans rfl, (blk_cell BK.out 4).trans rfl, (blk_cell BK.out 5).trans rfl⟩ (fun hHeld => ?_)
  generalize (w.alloc (.cells #[.int .i64 a0, .int .i64 a1, .int .i64 a2, .int .u64 a3, .int .u64 a4, .int .u64 a5] 24)).drew = wz at BK HB hHeld ⊢
  refine pure_ (i := 3) (N := some 17) (v := ?_) (a' := ?_) #[false, false, false, true, false, false, false, false, false, false, false, false, false, false, false, false, false, false, false] rfl rfl (by kernel_rfl) (fun _ _ _ h => h) (Or.inl ⟨by rfl, ?_⟩) ?_ ?_
  rotate_left
  · intro w'
    go_simp
    with_reducible rfl
  rotate_left
  · simp only [Act.put, List.setIfInBounds_toArray, List.set_cons_zero, List.set_cons_succ]
    rfl
  refine pure_ (i := 4) (N := some 18) (v := ?_) (a' := ?_) #[false, false, false, true, true, false, false, false, false, false, false, false, false, false, false, false, false, false, false] rfl rfl (by kernel_rfl) (fun _ _ _ h => h) (Or.inl ⟨by rfl, ?_⟩) ?_ ?_
  rotate_left
  · intro w'
    go_simp
    with_reducible rfl
  rotate_left
  · simp only [Act.put, List.setIfInBounds_toArray, List.set_cons_zero, List.set_cons_succ]
    rfl
  refine pure_ (i := 6) (N := some 20) (v := ?_) (a' := ?_) #[false, false, false, true, true, false, true, false, false, false, false, false, false, false, false, false, false, false, false] rfl rfl (by kernel_rfl) (fun _ _ _ h => h) (Or.inl ⟨by rfl, ?_⟩) ?_ ?_
  rotate_left
  · intro w'
    go_simp
    with_reducible rfl
  rotate_left
  · simp only [Act.put, List.setIfInBounds_toArray, List.set_cons_zero, List.set_cons_succ]
    rfl
  refine pure_ (i := 8) (N := some 22) (v := ?_) (a' := ?_) #[false, false, false, true, true, false, true, false, true, false, false, false, false, false, false, false, false, false, false] rfl rfl (by kernel_rfl) (fun _ _ _ h => h) (Or.inl ⟨by rfl, ?_⟩) ?_ ?_
  rotate_left
  · intro w'
    go_simp
    with_reducible rfl
  rotate_left
  · simp only [Act.put, List.setIfInBounds_toArray, List.set_cons_zero, List.set_cons_succ]
    rfl
  refine pure_ (i := 11) (N := some 25) (v := ?_) (a' := ?_) #[false, false, false, true, true, false, true, false, true, false, false, true, false, false, false, false, false, false, false] rfl rfl (by kernel_rfl) (fun _ _ _ h => h) (Or.inl ⟨by rfl, ?_⟩) ?_ ?_
  rotate_left
  · intro w'
    go_simp
    with_reducible rfl
  rotate_left
  · simp only [Act.put, List.setIfInBounds_toArray, List.set_cons_zero, List.set_cons_succ]
    rfl
  refine take_ (i := 0) (N := some 14) (v := ?_) (a' := ?_) #[true, false, false, true, true, false, true, false, true, false, false, true, false, false, false, false, false, false, false] rfl rfl (by kernel_rfl) (fun _ _ _ h => h) (Or.inl ⟨by rfl, ?_⟩) hHeld ?_ ?_
  rotate_left
  · rintro w' ⟨s0, s1, s2, s3, s4, s5⟩
    go_simp
    with_reducible rfl
  rotate_left
  · simp only [Act.put, List.setIfInBounds_toArray, List.set_cons_zero, List.set_cons_succ]
    rfl
  refine pure_ (i := 1) (N := some 15) (v := ?_) (a' := ?_) #[true, true, false, true, true, false, true, false, true, false, false, true, false, false, false, false, false, false, false] rfl rfl (by kernel_rfl) (fun _ _ _ h => h) (Or.inl ⟨by rfl, ?_⟩) ?_ ?_
  rotate_left
  · intro w'
    go_simp
    with_reducible rfl
  rotate_left
  · simp only [Act.put, List.setIfInBounds_toArray, List.set_cons_zero, List.set_cons_succ]
    rfl
  refine pure_ (i := 2) (N := some 16) (v := ?_) (a' := ?_) #[true, true, true, true, true, false, true, false, true, false, false, true, false, false, false, false, false, false, false] rfl rfl (by kernel_rfl) (fun _ _ _ h => h) (Or.inl ⟨by rfl, ?_⟩) ?_ ?_
  rotate_left
  · intro w'
    go_simp
    with_reducible rfl
  rotate_left
  · simp only [Act.put, List.setIfInBounds_toArray, List.set_cons_zero, List.set_cons_succ]
    rfl
  refine join_ (σ := Option Addr × Nat × Option Addr × Nat × Nat × Nat) 7 #[true, true, true, true, true, true, true, true, true, true, true, true, false, false, false, false, false, false, false] (fun s_ => [(19, .slice (some ⟨s_.2.2.2.2.1, 0, none⟩) 0 0), (21, .slice s_.1 l1.length s_.2.1), (23, .slice s_.2.2.1 L.length s_.2.2.2.1), (24, .slice (some ⟨s_.2.2.2.2.2, 0, none⟩) 0 0)]) (fun s_ w' => w'.heap[w.heap.size]? = some (.cells #[.int .i64 a0, .int .i64 a1, .int .i64 a2, .int .u64 a3, .int .u64 a4, .int .u64 a5] 24 (0, 0)) ∧ Below w.heap.size w w' ∧ CB w' s_.1 l1 ∧ l1.length ≤ s_.2.1 ∧ CL w' s_.2.2.1 L ∧ L.length ≤ s_.2.2.2.1) ?_ ?_
  rotate_left
  · intro hCont
    refine two_ (i := 5) (j := 10) (Ni := some 19) (Nj := some 24) #[true, true, true, true, true, true, true, false, true, false, false, true, false, false, false, false, false, false, false] #[true, true, true, true, true, false, true, false, true, false, true, true, false, false, false, false, false, false, false] rfl rfl rfl rfl (by kernel_rfl) (by decide) (by decide) (fun K hK => ?_) (fun K hK => ?_)
    · skip
      refine event_step rfl (by first | (go_simp; done) | (go_simp; rfl) | (go_simp; exact ⟨rfl, rfl⟩)) ?_
      refine new_lit _ _ ?_
      intro g5 W' hb
      have nBK := Aside0.mk (blk_below BK.out hb)
      have nHB := Aside0.mk (below_step HB.out hb)
      clear BK HB  hb
      have BK := nBK
      have HB := nHB
      clear nBK nHB 
      refine hK.out _ _ ⟨(blk_cell BK.out 0).trans rfl, (blk_cell BK.out 1).trans rfl, (blk_cell BK.out 2).trans rfl, (blk_cell BK.out 3).trans rfl, (blk_cell BK.out 4).trans rfl, (blk_cell BK.out 5).trans rfl⟩ (fun hHeld => ?_)
      clear hK K
      refine norm_ (a' := ?_) ?_ ?_
      rotate_left
      · show Act.put _ (some 19) _ = _
        simp only [Act.put, List.setIfInBounds_toArray, List.set_cons_zero, List.set_cons_succ]
        rfl
      refine two_ (i := 7) (j := 10) (Ni := some 21) (Nj := some 24) #[true, true, true, true, true, true, true, true, true, false, false, true, false, false, false, false, false, false, false] #[true, true, true, true, true, true, true, false, true, false, true, true, false, false, false, false, false, false, false] rfl rfl rfl rfl (by kernel_rfl) (by decide) (by decide) (fun K hK => ?_) (fun K hK => ?_)
      · skip
        refine app_step g5 (.tmp 19) (.tmp 20) rfl rfl rfl rfl rfl (Kd.C_below H1.out HB.out) hl1 ?_
        intro B1 d1 W' hd1 hC hb
        have nBK := Aside0.mk (blk_below BK.out hb)
        have nHB := Aside0.mk (below_step HB.out hb)
        clear BK HB  hb
        have BK := nBK
        have HB := nHB
        clear nBK nHB 
        have F1 := Aside0.mk hC
        clear hC
        refine hK.out _ _ ⟨(blk_cell BK.out 0).trans rfl, (blk_cell BK.out 1).trans rfl, (blk_cell BK.out 2).trans rfl, (blk_cell BK.out 3).trans rfl, (blk_cell BK.out 4).trans rfl, (blk_cell BK.out 5).trans rfl⟩ (fun hHeld => ?_)
        clear hK K
        refine norm_ (a' := ?_) ?_ ?_
        rotate_left
        · show Act.put _ (some 21) _ = _
          simp only [Act.put, List.setIfInBounds_toArray, List.set_cons_zero, List.set_cons_succ]
          rfl
        refine two_ (i := 9) (j := 10) (Ni := some 23) (Nj := some 24) #[true, true, true, true, true, true, true, true, true, true, false, true, false, false, false, false, false, false, false] #[true, true, true, true, true, true, true, true, true, false, true, true, false, false, false, false, false, false, false] rfl rfl rfl rfl (by kernel_rfl) (by decide) (by decide) (fun K hK => ?_) (fun K hK => ?_)
        · skip
          refine goes_ Tryd.func48 (by kernel_rfl) rfl #[.slice A2 L.length c2] (by rfl) rfl rfl (by (try simp only [List.map_toArray, List.map_cons, List.map_nil]); first | done | rfl) ?_
          refine (impl_texts.calls _ _ c2 L L _ (Kd.C_below H2.out HB.out) hc2 htx).mono ?_
          rintro e W' ⟨v23, rfl, hS, hb⟩
          refine ⟨_, rfl, ?_⟩
          obtain ⟨B2, d2, rfl, hd2, hC⟩ := Kd.S_reads hS
          clear hS
          have nBK := Aside0.mk (blk_below BK.out hb)
          have nHB := Aside0.mk (below_step HB.out hb)
          have nF1 := Aside0.mk (Kd.C_below F1.out hb)
          clear BK HB F1 hb
          have BK := nBK
          have HB := nHB
          have F1 := nF1
          clear nBK nHB nF1
          have F2 := Aside0.mk hC
          clear hC
          refine hK.out _ _ ⟨(blk_cell BK.out 0).trans rfl, (blk_cell BK.out 1).trans rfl, (blk_cell BK.out 2).trans rfl, (blk_cell BK.out 3).trans rfl, (blk_cell BK.out 4).trans rfl, (blk_cell BK.out 5).trans rfl⟩ (fun hHeld => ?_)
          clear hK K
          refine norm_ (a' := ?_) ?_ ?_
          rotate_left
          · show Act.put _ (some 23) _ = _
            simp only [Act.put, List.setIfInBounds_toArray, List.set_cons_zero, List.set_cons_succ]
            rfl
          refine one_ (i := 10) (N := some 24) #[true, true, true, true, true, true, true, true, true, true, true, true, false, false, false, false, false, false, false] rfl rfl (by kernel_rfl) (by decide) (fun K hK => ?_)
          refine event_step rfl (by first | (go_simp; done) | (go_simp; rfl) | (go_simp; exact ⟨rfl, rfl⟩)) ?_
          refine new_lit _ _ ?_
          intro g10 W' hb
          have nBK := Aside0.mk (blk_below BK.out hb)
          have nHB := Aside0.mk (below_step HB.out hb)
          have nF1 := Aside0.mk (Kd.C_below F1.out hb)
          have nF2 := Aside0.mk (Kd.C_below F2.out hb)
          clear BK HB F1 F2 hb
          have BK := nBK
          have HB := nHB
          have F1 := nF1
          have F2 := nF2
          clear nBK nHB nF1 nF2
          refine hK.out _ _ ⟨(blk_cell BK.out 0).trans rfl, (blk_cell BK.out 1).trans rfl, (blk_cell BK.out 2).trans rfl, (blk_cell BK.out 3).trans rfl, (blk_cell BK.out 4).trans rfl, (blk_cell BK.out 5).trans rfl⟩ (fun hHeld => ?_)
          clear hK K
          refine norm_ (a' := ?_) ?_ ?_
          rotate_left
          · show Act.put _ (some 24) _ = _
            simp only [Act.put, List.setIfInBounds_toArray, List.set_cons_zero, List.set_cons_succ]
            rfl
          exact norm_ (by simp only [putAll, Act.put, List.setIfInBounds_toArray, List.set_cons_zero, List.set_cons_succ]) (hCont (B1, d1, B2, d2, g5, g10) _ ⟨BK.out, HB.out, F1.out, hd1, F2.out, hd2⟩)
        · skip
          refine event_step rfl (by first | (go_simp; done) | (go_simp; rfl) | (go_simp; exact ⟨rfl, rfl⟩)) ?_
          refine new_lit _ _ ?_
          intro g10 W' hb
          have nBK := Aside0.mk (blk_below BK.out hb)
          have nHB := Aside0.mk (below_step HB.out hb)
          have nF1 := Aside0.mk (Kd.C_below F1.out hb)
          clear BK HB F1 hb
          have BK := nBK
          have HB := nHB
          have F1 := nF1
          clear nBK nHB nF1
          refine hK.out _ _ ⟨(blk_cell BK.out 0).trans rfl, (blk_cell BK.out 1).trans rfl, (blk_cell BK.out 2).trans rfl, (blk_cell BK.out 3).trans rfl, (blk_cell BK.out 4).trans rfl, (blk_cell BK.out 5).trans rfl⟩ (fun hHeld => ?_)
          clear hK K
          refine norm_ (a' := ?_) ?_ ?_
          rotate_left
          · show Act.put _ (some 24) _ = _
            simp only [Act.put, List.setIfInBounds_toArray, List.set_cons_zero, List.set_cons_succ]
            rfl
          refine one_ (i := 9) (N := some 23) #[true, true, true, true, true, true, true, true, true, true, true, true, false, false, false, false, false, false, false] rfl rfl (by kernel_rfl) (by decide) (fun K hK => ?_)
          refine goes_ Tryd.func48 (by kernel_rfl) rfl #[.slice A2 L.length c2] (by rfl) rfl rfl (by (try simp only [List.map_toArray, List.map_cons, List.map_nil]); first | done | rfl) ?_
          refine (impl_texts.calls _ _ c2 L L _ (Kd.C_below H2.out HB.out) hc2 htx).mono ?_
          rintro e W' ⟨v23, rfl, hS, hb⟩
          refine ⟨_, rfl, ?_⟩
          obtain ⟨B2, d2, rfl, hd2, hC⟩ := Kd.S_reads hS
          clear hS
          have nBK := Aside0.mk (blk_below BK.out hb)
          have nHB := Aside0.mk (below_step HB.out hb)
          have nF1 := Aside0.mk (Kd.C_below F1.out hb)
          clear BK HB F1 hb
          have BK := nBK
          have HB := nHB
          have F1 := nF1
          clear nBK nHB nF1
          have F2 := Aside0.mk hC
          clear hC
          refine hK.out _ _ ⟨(blk_cell BK.out 0).trans rfl, (blk_cell BK.out 1).trans rfl, (blk_cell BK.out 2).trans rfl, (blk_cell BK.out 3).trans rfl, (blk_cell BK.out 4).trans rfl, (blk_cell BK.out 5).trans rfl⟩ (fun hHeld => ?_)
          clear hK K
          refine norm_ (a' := ?_) ?_ ?_
          rotate_left
          · show Act.put _ (some 23) _ = _
            simp only [Act.put, List.setIfInBounds_toArray, List.set_cons_zero, List.set_cons_succ]
            rfl
          exact norm_ (by simp only [putAll, Act.put, List.setIfInBounds_toArray, List.set_cons_zero, List.set_cons_succ]) (hCont (B1, d1, B2, d2, g5, g10) _ ⟨BK.out, HB.out, F1.out, hd1, F2.out, hd2⟩)
      · skip
        refine event_step rfl (by first | (go_simp; done) | (go_simp; rfl) | (go_simp; exact ⟨rfl, rfl⟩)) ?_
        refine new_lit _ _ ?_
        intro g10 W' hb
        have nBK := Aside0.mk (blk_below BK.out hb)
        have nHB := Aside0.mk (below_step HB.out hb)
        clear BK HB  hb
        have BK := nBK
        have HB := nHB
        clear nBK nHB 
        refine hK.out _ _ ⟨(blk_cell BK.out 0).trans rfl, (blk_cell BK.out 1).trans rfl, (blk_cell BK.out 2).trans rfl, (blk_cell BK.out 3).trans rfl, (blk_cell BK.out 4).trans rfl, (blk_cell BK.out 5).trans rfl⟩ (fun hHeld => ?_)
        clear hK K
        refine norm_ (a' := ?_) ?_ ?_
        rotate_left
        · show Act.put _ (some 24) _ = _
          simp only [Act.put, List.setIfInBounds_toArray, List.set_cons_zero, List.set_cons_succ]
          rfl
        refine one_ (i := 7) (N := some 21) #[true, true, true, true, true, true, true, true, true, false, true, true, false, false, false, false, false, false, false] rfl rfl (by kernel_rfl) (by decide) (fun K hK => ?_)
        refine app_step g5 (.tmp 19) (.tmp 20) rfl rfl rfl rfl rfl (Kd.C_below H1.out HB.out) hl1 ?_
        intro B1 d1 W' hd1 hC hb
        have nBK := Aside0.mk (blk_below BK.out hb)
        have nHB := Aside0.mk (below_step HB.out hb)
        clear BK HB  hb
        have BK := nBK
        have HB := nHB
        clear nBK nHB 
        have F1 := Aside0.mk hC
        clear hC
        refine hK.out _ _ ⟨(blk_cell BK.out 0).trans rfl, (blk_cell BK.out 1).trans rfl, (blk_cell BK.out 2).trans rfl, (blk_cell BK.out 3).trans rfl, (blk_cell BK.out 4).trans rfl, (blk_cell BK.out 5).trans rfl⟩ (fun hHeld => ?_)
        clear hK K
        refine norm_ (a' := ?_) ?_ ?_
        rotate_left
        · show Act.put _ (some 21) _ = _
          simp only [Act.put, List.setIfInBounds_toArray, List.set_cons_zero, List.set_cons_succ]
          rfl
        refine one_ (i := 9) (N := some 23) #[true, true, true, true, true, true, true, true, true, true, true, true, false, false, false, false, false, false, false] rfl rfl (by kernel_rfl) (by decide) (fun K hK => ?_)
        refine goes_ Tryd.func48 (by kernel_rfl) rfl #[.slice A2 L.length c2] (by rfl) rfl rfl (by (try simp only [List.map_toArray, List.map_cons, List.map_nil]); first | done | rfl) ?_
        refine (impl_texts.calls _ _ c2 L L _ (Kd.C_below H2.out HB.out) hc2 htx).mono ?_
        rintro e W' ⟨v23, rfl, hS, hb⟩
        refine ⟨_, rfl, ?_⟩
        obtain ⟨B2, d2, rfl, hd2, hC⟩ := Kd.S_reads hS
        clear hS
        have nBK := Aside0.mk (blk_below BK.out hb)
        have nHB := Aside0.mk (below_step HB.out hb)
        have nF1 := Aside0.mk (Kd.C_below F1.out hb)
        clear BK HB F1 hb
        have BK := nBK
        have HB := nHB
        have F1 := nF1
        clear nBK nHB nF1
        have F2 := Aside0.mk hC
        clear hC
        refine hK.out _ _ ⟨(blk_cell BK.out 0).trans rfl, (blk_cell BK.out 1).trans rfl, (blk_cell BK.out 2).trans rfl, (blk_cell BK.out 3).trans rfl, (blk_cell BK.out 4).trans rfl, (blk_cell BK.out 5).trans rfl⟩ (fun hHeld => ?_)
        clear hK K
        refine norm_ (a' := ?_) ?_ ?_
        rotate_left
        · show Act.put _ (some 23) _ = _
          simp only [Act.put, List.setIfInBounds_toArray, List.set_cons_zero, List.set_cons_succ]
          rfl
        exact norm_ (by simp only [putAll, Act.put, List.setIfInBounds_toArray, List.set_cons_zero, List.set_cons_succ]) (hCont (B1, d1, B2, d2, g5, g10) _ ⟨BK.out, HB.out, F1.out, hd1, F2.out, hd2⟩)
    · skip
      refine event_step rfl (by first | (go_simp; done) | (go_simp; rfl) | (go_simp; exact ⟨rfl, rfl⟩)) ?_
      refine new_lit _ _ ?_
      intro g10 W' hb
      have nBK := Aside0.mk (blk_below BK.out hb)
      have nHB := Aside0.mk (below_step HB.out hb)
      clear BK HB  hb
      have BK := nBK
      have HB := nHB
      clear nBK nHB 
      refine hK.out _ _ ⟨(blk_cell BK.out 0).trans rfl, (blk_cell BK.out 1).trans rfl, (blk_cell BK.out 2).trans rfl, (blk_cell BK.out 3).trans rfl, (blk_cell BK.out 4).trans rfl, (blk_cell BK.out 5).trans rfl⟩ (fun hHeld => ?_)
      clear hK K
      refine norm_ (a' := ?_) ?_ ?_
      rotate_left
      · show Act.put _ (some 24) _ = _
        simp only [Act.put, List.setIfInBounds_toArray, List.set_cons_zero, List.set_cons_succ]
        rfl
      refine one_ (i := 5) (N := some 19) #[true, true, true, true, true, true, true, false, true, false, true, true, false, false, false, false, false, false, false] rfl rfl (by kernel_rfl) (by decide) (fun K hK => ?_)
      refine event_step rfl (by first | (go_simp; done) | (go_simp; rfl) | (go_simp; exact ⟨rfl, rfl⟩)) ?_
      refine new_lit _ _ ?_
      intro g5 W' hb
      have nBK := Aside0.mk (blk_below BK.out hb)
      have nHB := Aside0.mk (below_step HB.out hb)
      clear BK HB  hb
      have BK := nBK
      have HB := nHB
      clear nBK nHB 
      refine hK.out _ _ ⟨(blk_cell BK.out 0).trans rfl, (blk_cell BK.out 1).trans rfl, (blk_cell BK.out 2).trans rfl, (blk_cell BK.out 3).trans rfl, (blk_cell BK.out 4).trans rfl, (blk_cell BK.out 5).trans rfl⟩ (fun hHeld => ?_)
      clear hK K
      refine norm_ (a' := ?_) ?_ ?_
      rotate_left
      · show Act.put _ (some 19) _ = _
        simp only [Act.put, List.setIfInBounds_toArray, List.set_cons_zero, List.set_cons_succ]
        rfl
      refine one_ (i := 7) (N := some 21) #[true, true, true, true, true, true, true, true, true, false, true, true, false, false, false, false, false, false, false] rfl rfl (by kernel_rfl) (by decide) (fun K hK => ?_)
      refine app_step g5 (.tmp 19) (.tmp 20) rfl rfl rfl rfl rfl (Kd.C_below H1.out HB.out) hl1 ?_
      intro B1 d1 W' hd1 hC hb
      have nBK := Aside0.mk (blk_below BK.out hb)
      have nHB := Aside0.mk (below_step HB.out hb)
      clear BK HB  hb
      have BK := nBK
      have HB := nHB
      clear nBK nHB 
      have F1 := Aside0.mk hC
      clear hC
      refine hK.out _ _ ⟨(blk_cell BK.out 0).trans rfl, (blk_cell BK.out 1).trans rfl, (blk_cell BK.out 2).trans rfl, (blk_cell BK.out 3).trans rfl, (blk_cell BK.out 4).trans rfl, (blk_cell BK.out 5).trans rfl⟩ (fun hHeld => ?_)
      clear hK K
      refine norm_ (a' := ?_) ?_ ?_
      rotate_left
      · show Act.put _ (some 21) _ = _
        simp only [Act.put, List.setIfInBounds_toArray, List.set_cons_zero, List.set_cons_succ]
        rfl
      refine one_ (i := 9) (N := some 23) #[true, true, true, true, true, true, true, true, true, true, true, true, false, false, false, false, false, false, false] rfl rfl (by kernel_rfl) (by decide) (fun K hK => ?_)
      refine goes_ Tryd.func48 (by kernel_rfl) rfl #[.slice A2 L.length c2] (by rfl) rfl rfl (by (try simp only [List.map_toArray, List.map_cons, List.map_nil]); first | done | rfl) ?_
      refine (impl_texts.calls _ _ c2 L L _ (Kd.C_below H2.out HB.out) hc2 htx).mono ?_
      rintro e W' ⟨v23, rfl, hS, hb⟩
      refine ⟨_, rfl, ?_⟩
      obtain ⟨B2, d2, rfl, hd2, hC⟩ := Kd.S_reads hS
      clear hS
      have nBK := Aside0.mk (blk_below BK.out hb)
      have nHB := Aside0.mk (below_step HB.out hb)
      have nF1 := Aside0.mk (Kd.C_below F1.out hb)
      clear BK HB F1 hb
      have BK := nBK
      have HB := nHB
      have F1 := nF1
      clear nBK nHB nF1
      have F2 := Aside0.mk hC
      clear hC
      refine hK.out _ _ ⟨(blk_cell BK.out 0).trans rfl, (blk_cell BK.out 1).trans rfl, (blk_cell BK.out 2).trans rfl, (blk_cell BK.out 3).trans rfl, (blk_cell BK.out 4).trans rfl, (blk_cell BK.out 5).trans rfl⟩ (fun hHeld => ?_)
      clear hK K
      refine norm_ (a' := ?_) ?_ ?_
      rotate_left
      · show Act.put _ (some 23) _ = _
        simp only [Act.put, List.setIfInBounds_toArray, List.set_cons_zero, List.set_cons_succ]
        rfl
      exact norm_ (by simp only [putAll, Act.put, List.setIfInBounds_toArray, List.set_cons_zero, List.set_cons_succ]) (hCont (B1, d1, B2, d2, g5, g10) _ ⟨BK.out, HB.out, F1.out, hd1, F2.out, hd2⟩)
  clear BK HB hHeld
  rintro ⟨B1, d1, B2, d2, g5, g10⟩ W1 ⟨bk, hb0, f1, hd1, f2, hd2⟩
  have BK := Aside0.mk bk
  have HB := Aside0.mk hb0
  have F1 := Aside0.mk f1
  have F2 := Aside0.mk f2
  clear bk hb0 f1 f2
  dsimp only at hd1 hd2 F1 F2
  refine norm_ (a' := ?_) ?_ ?_
  rotate_left
  · simp only [putAll, Act.put, List.setIfInBounds_toArray, List.set_cons_zero, List.set_cons_succ]
    rfl
  refine one_ (i := 12) (N := some 26) #[true, true, true, true, true, true, true, true, true, true, true, true, true, false, false, false, false, false, false] rfl rfl (by kernel_rfl) (by decide) (fun K hK => ?_)
  refine app_step g10 (.tmp 24) (.tmp 25) rfl rfl rfl rfl rfl (Kd.C_below H3.out HB.out) hl3 ?_
  intro B3 d3 W' hd3 hC hb
  have nBK := Aside0.mk (blk_below BK.out hb)
  have nHB := Aside0.mk (below_step HB.out hb)
  have nF1 := Aside0.mk (Kd.C_below F1.out hb)
  have nF2 := Aside0.mk (Kd.C_below F2.out hb)
  clear BK HB F1 F2 hb
  have BK := nBK
  have HB := nHB
  have F1 := nF1
  have F2 := nF2
  clear nBK nHB nF1 nF2
  have F3 := Aside0.mk hC
  clear hC
  refine hK.out _ _ ⟨(blk_cell BK.out 0).trans rfl, (blk_cell BK.out 1).trans rfl, (blk_cell BK.out 2).trans rfl, (blk_cell BK.out 3).trans rfl, (blk_cell BK.out 4).trans rfl, (blk_cell BK.out 5).trans rfl⟩ (fun hHeld => ?_)
  clear hK K
  refine norm_ (a' := ?_) ?_ ?_
  rotate_left
  · show Act.put _ (some 26) _ = _
    simp only [Act.put, List.setIfInBounds_toArray, List.set_cons_zero, List.set_cons_succ]
    rfl
  refine one_ (i := 13) (N := some 27) #[true, true, true, true, true, true, true, true, true, true, true, true, true, true, false, false, false, false, false] rfl rfl (by kernel_rfl) (by decide) (fun K hK => ?_)
  refine goes_ Tryd.func78 (by kernel_rfl) rfl #[toyV a0 a1 a2 a3 a4 a5, .int .u64 ix, .int .u64 sz, .slice B1 l1.length d1, .slice B2 L.length d2, .slice B3 l3.length d3] (by rfl) rfl rfl (by (try simp only [List.map_toArray, List.map_cons, List.map_nil]); first | done | rfl) ?_
  refine (HV.out _ B1 d1 B2 d2 B3 d3 F1.out hd1 F2.out hd2 F3.out hd3).mono ?_
  rintro e W' ⟨v, rfl, hb, hcv⟩
  refine ⟨_, rfl, ?_⟩
  have HCV := Aside0.mk hcv
  clear hcv
  have nBK := Aside0.mk (blk_below BK.out hb)
  have nHB := Aside0.mk (below_step HB.out hb)
  clear BK HB  hb
  have BK := nBK
  have HB := nHB
  clear nBK nHB 
  refine hK.out _ _ ⟨(blk_cell BK.out 0).trans rfl, (blk_cell BK.out 1).trans rfl, (blk_cell BK.out 2).trans rfl, (blk_cell BK.out 3).trans rfl, (blk_cell BK.out 4).trans rfl, (blk_cell BK.out 5).trans rfl⟩ (fun hHeld => ?_)
  clear hK K
  refine norm_ (a' := ?_) ?_ ?_
  rotate_left
  · show Act.put _ (some 27) _ = _
    simp only [Act.put, List.setIfInBounds_toArray, List.set_cons_zero, List.set_cons_succ]
    rfl
  refine one_ (i := 14) (N := some 28) #[true, true, true, true, true, true, true, true, true, true, true, true, true, true, true, false, false, false, false] rfl rfl (by kernel_rfl) (by decide) (fun K hK => ?_)
  refine goes_ Tryd.func59 (by kernel_rfl) rfl #[v] (by rfl) rfl rfl (by (try simp only [List.map_toArray, List.map_cons, List.map_nil]); first | done | rfl) ?_
  refine HCV.out.mono ?_
  rintro e W'' ⟨v2, rfl, hR, hb⟩
  refine ⟨_, rfl, ?_⟩
  have HR := Aside0.mk (Kd.R_lower (base' := w.heap.size) hR (below_size HB.out))
  clear hR
  have nBK := Aside0.mk (blk_below BK.out hb)
  have nHB := Aside0.mk (below_step HB.out hb)
  clear BK HB  hb
  have BK := nBK
  have HB := nHB
  clear nBK nHB 
  refine hK.out _ _ ⟨(blk_cell BK.out 0).trans rfl, (blk_cell BK.out 1).trans rfl, (blk_cell BK.out 2).trans rfl, (blk_cell BK.out 3).trans rfl, (blk_cell BK.out 4).trans rfl, (blk_cell BK.out 5).trans rfl⟩ (fun hHeld => ?_)
  clear hK K
  refine norm_ (a' := ?_) ?_ ?_
  rotate_left
  · show Act.put _ (some 28) _ = _
    simp only [Act.put, List.setIfInBounds_toArray, List.set_cons_zero, List.set_cons_succ]
    rfl
  refine pure_ (i := 15) (N := some 29) (v := ?_) (a' := ?_) #[true, true, true, true, true, true, true, true, true, true, true, true, true, true, true, true, false, false, false] rfl rfl (by kernel_rfl) (fun _ _ _ h => h) (Or.inl ⟨by rfl, ?_⟩) ?_ ?_
  rotate_left
  · intro w'
    go_simp
    with_reducible rfl
  rotate_left
  · simp only [Act.put, List.setIfInBounds_toArray, List.set_cons_zero, List.set_cons_succ]
    rfl
  refine pure_ (i := 16) (N := some 30) (v := ?_) (a' := ?_) #[true, true, true, true, true, true, true, true, true, true, true, true, true, true, true, true, true, false, false] rfl rfl (by kernel_rfl) (fun _ _ _ h => h) (Or.inl ⟨by rfl, ?_⟩) ?_ ?_
  rotate_left
  · intro w'
    go_simp
    with_reducible rfl
  rotate_left
  · simp only [Act.put, List.setIfInBounds_toArray, List.set_cons_zero, List.set_cons_succ]
    rfl
  refine pure_ (i := 17) (N := some 12) (v := ?_) (a' := ?_) #[true, true, true, true, true, true, true, true, true, true, true, true, true, true, true, true, true, true, false] rfl rfl (by kernel_rfl) (fun _ _ _ h => h) (Or.inl ⟨by rfl, ?_⟩) ?_ ?_
  rotate_left
  · intro w'
    go_simp
    with_reducible rfl
  rotate_left
  · simp only [Act.put, List.setIfInBounds_toArray, List.set_cons_zero, List.set_cons_succ]
    rfl
  refine pure_ (i := 18) (N := some 13) (v := ?_) (a' := ?_) #[true, true, true, true, true, true, true, true, true, true, true, true, true, true, true, true, true, true, true] rfl rfl (by kernel_rfl) (fun _ _ _ h => h) (Or.inl ⟨by rfl, ?_⟩) ?_ ?_
  rotate_left
  · intro w'
    go_simp
    with_reducible rfl
  rotate_left
  · simp only [Act.put, List.setIfInBounds_toArray, List.set_cons_zero, List.set_cons_succ]
    rfl
  refine done_ (by kernel_rfl) ?_
  try go_wp2
  go_ret2
  exact ⟨_, rfl, HR.out, HB.out⟩
end Go.Proofs.YtfhcpniibiobgaaDoor.Qf
namespace Go.Proofs.YtfhcpniibiobgaaDoor.Qf
open Go.RowKit Go.Proofs.YtfhcpniibiobgaaDoorW.PrintWords Go.Proofs.YtfhcpniibiobgaaDoorW.PrintLast Go.Proofs.YtfhcpniibiobgaaDoorW.PrintMore
open Hs (CB CL at_L at_B infoB infoL R_of_blk)

/-- What impl.VerifyInclusion answers. -/
def viF (a0 a1 a2 a3 a4 a5 ix sz : Int) (l1 : List Int) (L : List (List Int)) (l3 : List Int) : Option (Int × List Int) :=
  if l1.length ≤ 140737488351232 ∧ l3.length ≤ 140737488351232 ∧ L.length ≤ 5864062014804 ∧ (∀ x ∈ L, x.length < 140737488355328) then
    if sz ≤ ix then some (2, []) else if (l1.length : Int) ≠ a1 then some (2, []) else
    (proof_decompInclProof.f ix sz).bind fun ib =>
      if 0 ≤ ib.1 ∧ ib.1 ≤ 64 ∧ 0 ≤ ib.2 ∧ ib.2 ≤ 64 then
        if (L.length : Int) ≠ ib.1 + ib.2 then some (2, []) else
        (chainI a0 a1 a2 a3 a4 a5 ix (L.take ib.1.toNat) l1 0).bind fun r1 =>
        (chainB a0 a1 a2 a3 a4 a5 (L.drop ib.1.toNat) r1).bind fun r =>
        if sameB r l3 then some (0, []) else if r.length ≤ 140737488351232 then some (1, r) else none
      else none
  else none

set_option maxHeartbeats 1000000 in
theorem viF_calls (a0 a1 a2 a3 a4 a5 ix sz : Int) (A1 : Option Addr) (c1 : Nat) (l1 : List Int) (A2 : Option Addr) (c2 : Nat) (L : List (List Int)) (A3 : Option Addr) (c3 : Nat) (l3 : List Int) (r1 : Int) (r2 : List Int) (w : World)
    (h1 : CB w A1 l1) (h2 : CL w A2 L) (hc2 : L.length ≤ c2) (h3 : CB w A3 l3) (h : viF a0 a1 a2 a3 a4 a5 ix sz l1 L l3 = some (r1, r2)) :
    Calls Tryd.prog 38 #[.agg #[.int .i64 a0, .int .i64 a1, .int .i64 a2, .int .u64 a3, .int .u64 a4, .int .u64 a5], .int .u64 ix, .int .u64 sz, .slice A1 l1.length c1, .slice A2 L.length c2, .slice A3 l3.length c3] w fun e w' => ∃ v2, e = .returned (.tuple #[.int .i64 r1, v2]) ∧ Kd.R (Kd.int .u8) 5 w' w.heap.size (fun _ => True) v2 r2 ∧ Below w.heap.size w w' := by
  unfold viF at h
  by_cases hb : l1.length ≤ 140737488351232 ∧ l3.length ≤ 140737488351232 ∧ L.length ≤ 5864062014804 ∧ (∀ x ∈ L, x.length < 140737488355328)
  case neg => rw [if_neg hb] at h; cases h
  rw [if_pos hb] at h
  obtain ⟨hl1, hl3, hLl, hrow⟩ := hb
  refine implVI_of a0 a1 a2 a3 a4 a5 ix sz A1 c1 l1 A2 c2 L A3 c3 l3 w h1 h2 h3 hl1 hl3 hc2 (L.length + 1) (texts_ok L hLl hrow) r1 r2 fun W B1 d1 B2 d2 B3 d3 k1 kd1 k2 kd2 k3 kd3 => ?_
  have err : (r1, r2) = (2, ([] : List Int)) → (Calls Tryd.prog 107 #[toyV a0 a1 a2 a3 a4 a5, .int .u64 ix, .int .u64 sz, .slice B1 l1.length d1, .slice B2 L.length d2] W fun e w' => ∃ x, e = .returned (.tuple #[.slice none 0 0, .iface 175 (.pointer (some x))]) ∧ Below W.heap.size W w') → (Calls Tryd.prog 78 #[toyV a0 a1 a2 a3 a4 a5, .int .u64 ix, .int .u64 sz, .slice B1 l1.length d1, .slice B2 L.length d2, .slice B3 l3.length d3] W fun e W' => ∃ v, e = .returned v ∧ Below W.heap.size W W' ∧
        Calls Tryd.prog 59 #[v] W' fun e' W'' => ∃ v2, e' = .returned (.tuple #[.int .i64 r1, v2]) ∧ Kd.R (Kd.int .u8) 5 W'' W'.heap.size (fun _ => True) v2 r2 ∧ Below W'.heap.size W' W'') := fun he hc =>
    (vi_err a0 a1 a2 a3 a4 a5 ix sz B1 d1 l1.length B2 d2 L.length B3 d3 l3.length W hc).mono fun e W' ⟨x, he', hbl⟩ => ⟨_, he', hbl, (verdict_err x W').mono fun e2 W2 ⟨he2, hb2⟩ => by
      obtain ⟨rfl, rfl⟩ := Prod.mk.inj he
      exact ⟨_, he2, nilR _ _, hb2⟩⟩
  by_cases hlt : sz ≤ ix
  · rw [if_pos hlt] at h
    exact err (Option.some.inj h).symm (root_err1 a0 a1 a2 a3 a4 a5 ix sz B1 d1 l1.length B2 d2 L.length hlt W)
  rw [if_neg hlt] at h
  by_cases hsz : (l1.length : Int) ≠ a1
  · rw [if_pos hsz] at h
    exact err (Option.some.inj h).symm (root_err2 a0 a1 a2 a3 a4 a5 ix sz B1 d1 l1.length B2 d2 L.length (by omega) hsz W)
  rw [if_neg hsz] at h
  have hsz' : (l1.length : Int) = a1 := by omega
  obtain ⟨⟨i, b⟩, hd, h⟩ := Option.bind_eq_some_iff.1 h
  dsimp only at h
  by_cases hib : 0 ≤ i ∧ i ≤ 64 ∧ 0 ≤ b ∧ b ≤ 64
  case neg => rw [if_neg hib] at h; cases h
  rw [if_pos hib] at h
  obtain ⟨inner, rfl⟩ := Int.eq_ofNat_of_zero_le hib.1
  obtain ⟨border, rfl⟩ := Int.eq_ofNat_of_zero_le hib.2.2.1
  by_cases hn : (L.length : Int) ≠ (inner : Int) + (border : Int)
  · rw [if_pos hn] at h
    exact err (Option.some.inj h).symm (root_err3 a0 a1 a2 a3 a4 a5 ix sz B1 d1 l1.length B2 d2 L.length inner border (by omega) hsz' hd ⟨by omega, by omega⟩ (by omega) W)
  rw [if_neg hn] at h
  rw [Int.toNat_natCast] at h
  obtain ⟨q, hq, h⟩ := Option.bind_eq_some_iff.1 h
  obtain ⟨r, hr, h⟩ := Option.bind_eq_some_iff.1 h
  have hok := root_ok a0 a1 a2 a3 a4 a5 ix sz B1 d1 l1 B2 d2 L inner border q r W k1 kd1 k2 kd2 (by omega) (by omega) hsz' hd (by omega) hq hr
  by_cases heq : sameB r l3 = true
  · rw [if_pos heq] at h
    obtain ⟨rfl, rfl⟩ := Prod.mk.inj (Option.some.inj h)
    exact (vi_yes a0 a1 a2 a3 a4 a5 ix sz B1 d1 l1.length B2 d2 L.length B3 d3 l3 r W k3 kd3 heq hok).mono fun e W' ⟨he, hbl⟩ => ⟨_, he, hbl, (verdict_nil W').mono fun e2 W2 ⟨he2, hb2⟩ => ⟨_, he2, nilR _ _, hb2⟩⟩
  · rw [if_neg heq] at h
    by_cases hrl : r.length ≤ 140737488351232
    case neg => rw [if_neg hrl] at h; cases h
    rw [if_pos hrl] at h
    obtain ⟨rfl, rfl⟩ := Prod.mk.inj (Option.some.inj h)
    exact (vi_no a0 a1 a2 a3 a4 a5 ix sz B1 d1 l1.length B2 d2 L.length B3 d3 l3 _ W k3 kd3 (by simpa using heq) hok).mono fun e W' ⟨A, c, he, hle, hC, hbl⟩ => ⟨_, he, hbl, (verdict_other B3 d3 l3.length A c _ W' hC hrl)⟩
end Go.Proofs.YtfhcpniibiobgaaDoor.Qf
namespace Go.Proofs.YtfhcpniibiobgaaDoor.Pure
open Go.RowKit Go.Proofs.YtfhcpniibiobgaaDoorW.PrintWords Go.Proofs.YtfhcpniibiobgaaDoorW.PrintMore Go.Proofs.YtfhcpniibiobgaaDoorW.PrintLast
open Go.Proofs.YtfhcpniibiobgaaDoor.M (vlen inn pc)

theorem nat_of_wf {x : Int} (h : (Lit.int .u64 x).wf = true) : ∃ n : Nat, x = (n : Int) ∧ n < 18446744073709551616 := by
  have h2 : IntKind.u64.min ≤ x ∧ x ≤ IntKind.u64.max := by simpa [Lit.wf] using h
  have e1 : IntKind.u64.min = 0 := rfl
  have e2 : IntKind.u64.max = 18446744073709551615 := rfl
  exact ⟨x.toNat, by omega, by omega⟩

/-- What the program answers, the tests ahead passed. -/
theorem viF_at (a0 a1 a2 a3 a4 a5 : Int) (x n : Nat) (hn : n < 18446744073709551616) (l : List Int) (L : List (List Int)) (r : List Int) (hl : l.length ≤ 5000) (hla : (l.length : Int) = a1) (hr : r.length ≤ 2147483647) (hL : L.length ≤ 300) (hrow : ∀ h ∈ L, h.length ≤ 5000) :
    Qf.viF a0 a1 a2 a3 a4 a5 (x : Int) (n : Int) l L r =
      if n ≤ x ∨ L.length ≠ inn x n + pc 64 (x / 2 ^ inn x n) then some (2, []) else
      if Qf.sameB (chB a0 a2 a5 (L.drop (inn x n)) (chI a0 a2 a5 (x : Int) (L.take (inn x n)) l 0)) r then some (0, []) else some (1, chB a0 a2 a5 (L.drop (inn x n)) (chI a0 a2 a5 (x : Int) (L.take (inn x n)) l 0)) := by
  unfold Qf.viF
  rw [if_pos ⟨by omega, by omega, by omega, fun h hh => by have := hrow h hh; omega⟩]
  by_cases hx : n ≤ x
  · rw [if_pos (by omega), if_pos (.inl hx)]
  · rw [if_neg (by omega), if_neg (by simpa using hla), decomp_f x n (by omega) hn, Option.bind_some]
    have h64 := inn_le x n (by omega) hn
    have hp := pc_le 64 (x / 2 ^ inn x n)
    generalize inn x n = m at *
    generalize pc 64 (x / 2 ^ m) = b at *
    dsimp only
    rw [if_pos ⟨by omega, by omega, by omega, by omega⟩]
    by_cases hc : L.length ≠ m + b
    · rw [if_pos (by omega), if_pos (.inr hc)]
    · rw [if_neg (by omega), if_neg (by omega), Int.toNat_natCast]
      have ht : ∀ h ∈ L.take m, h.length ≤ 5000 := fun h hh => hrow h (List.mem_of_mem_take hh)
      have hd : ∀ h ∈ L.drop m, h.length ≤ 5000 := fun h hh => hrow h (List.mem_of_mem_drop hh)
      have lt : (L.take m).length ≤ 300 := by rw [List.length_take]; omega
      have ld : (L.drop m).length ≤ 300 := by rw [List.length_drop]; omega
      have e1 := chI_len a0 a2 a5 (x : Int) (L.take m) l 0 ht
      rw [toyI a0 a1 a2 a3 a4 a5 (x : Int) (L.take m) l 0 ht (by omega), Option.bind_some, toyB a0 a1 a2 a3 a4 a5 (L.drop m) _ hd (by omega), Option.bind_some]
      have e2 := chB_len a0 a2 a5 (L.drop m) (chI a0 a2 a5 (x : Int) (L.take m) l 0) hd
      by_cases hs : Qf.sameB (chB a0 a2 a5 (L.drop m) (chI a0 a2 a5 (x : Int) (L.take m) l 0)) r = true
      · rw [if_pos hs, if_pos hs]
      · rw [if_neg hs, if_neg hs, if_pos (by omega)]
end Go.Proofs.YtfhcpniibiobgaaDoor.Pure
