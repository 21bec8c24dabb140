/- Several texts, joined. -/
import Derived.Test.YtfhcpniibiobgaaDoorGc
import Derived.Lib.Builder
namespace Go.Proofs.YtfhcpniibiobgaaDoor.Qf
open Go.RowKit Go.Proofs.YtfhcpniibiobgaaDoorW.PrintWords Go.Proofs.YtfhcpniibiobgaaDoorW.PrintLast Go.Proofs.YtfhcpniibiobgaaDoorW.PrintMore
open Hs (CB CL at_L at_B infoB infoL R_of_blk)
set_option maxHeartbeats 4000000 in
set_option maxRecDepth 100000 in
theorem appendImpl_none (a0 a1 a2 a3 a4 a5 : Int) (w0 : World) (gr gf gs : Nat) (S : Nat → Prop) (w : World) (b e x : Nat) (vr vs : Value) (l : List (List Int)) (V : List Vis) (As : Option Addr) (cs : Nat) (s : List Int) (low hgh : Nat) (h : RSt a0 a1 a2 a3 a4 a5 w0 gr gf gs S w (b : Int) (e : Int) vr vs l V) (hs : Safe S w As s) (hsc : s.length ≤ cs) (HG_ : Glob w0)
    (hmp : compact_getMergePath.f (b : Int) (e : Int) (x : Int) = some ((low : Int), (hgh : Int))) (hlh : hgh < low) (hh : low ≤ 64) (hll : l.length ≤ 1000)
    (hones : bits_OnesCount64.f (Go.bits .and .u64 ((e : Int) / 2 ^ low) 0) = some 0) :
    Calls Tryd.prog 98 #[.pointer (some ⟨gr, 0, none⟩), .int .u64 (x : Int), .slice As s.length cs, .slice none 0 0, .func (.func 64) #[] #[.pointer (some ⟨gs, 0, none⟩)]] w fun en w' => ∃ vr' vs' S', en = .returned .nilIface ∧ RSt a0 a1 a2 a3 a4 a5 w0 gr gf gs S' w' (b : Int) (x : Int) vr' vs' (l ++ [s]) V ∧ Grows S S' w ∧ KeptS S' w w' := by
  have HR := Aside0.mk h
  have HS := Aside0.mk hs
  have HG := Aside0.mk HG_
  have HMP := Aside0.mk hmp
  have HON := Aside0.mk hones
  clear h hs HG_ hmp hones
  obtain ⟨A, c, rfl, hlc, _⟩ := Kd.R_reads HR.out.rows.row
  have k0 : w.cell? ⟨gr, 0, none⟩ = some (.pointer (some ⟨gf, 0, none⟩)) := (blk_cell HR.out.obj 0).trans rfl
  have k1 : w.cell? ⟨gr, 1, none⟩ = some (.int .u64 (b : Int)) := (blk_cell HR.out.obj 1).trans rfl
  have k2 : w.cell? ⟨gr, 2, none⟩ = some (.int .u64 (e : Int)) := (blk_cell HR.out.obj 2).trans rfl
  have k3 : w.cell? ⟨gr, 3, none⟩ = some (.slice A l.length c) := (blk_cell HR.out.obj 3).trans rfl
  have t1 : decide ((hgh : Int) < (low : Int)) = true := decide_eq_true (by omega)
  have t1n : decide (hgh < low) = true := decide_eq_true (by omega)
  go_enter Tryd.func98, Tryd.ntmps98
  go_wp2
  go_region_held3 (fun w' => w'.cell? ⟨gr, 1, none⟩ = some (.int .u64 (b : Int)) ∧ w'.cell? ⟨gr, 2, none⟩ = some (.int .u64 (e : Int)) ∧ Below w.heap.size w w')
    (((try dsimp only); (try go_split_ands); (repeat' apply And.intro) <;> first | (go_keep; done) | exact below_drew (Below.refl _ _) | (refine pw_cell_below hb ?_; assumption) | (refine below_then ?_ ?_ hb; assumption; exact Below.size (by assumption))))
    ((go_at_call 115; have hB0 := Aside0.mk (show Below w.heap.size w _ by go_split_ands; assumption); refine (compact_getMergePath.calls (b : Int) (e : Int) (x : Int) (low : Int) (hgh : Int) _ (Glob.below HG.out (below_sz' HR.out.below ((Below.mono hB0.out HR.out.below.size)))) HMP.out).mono ?_; rintro en w1 ⟨rfl, hd⟩; have hb := hd.below))
  go_split_ands
  have hB1 : Below w.heap.size w w1 := by assumption
  have HR1 := Aside0.mk (HR.out.step hB1)
  have HS1 := Aside0.mk (HS.out.below hB1)
  have k0 : w1.cell? ⟨gr, 0, none⟩ = some (.pointer (some ⟨gf, 0, none⟩)) := (blk_cell HR1.out.obj 0).trans rfl
  have k2 : w1.cell? ⟨gr, 2, none⟩ = some (.int .u64 (e : Int)) := (blk_cell HR1.out.obj 2).trans rfl
  have k3 : w1.cell? ⟨gr, 3, none⟩ = some (.slice A l.length c) := (blk_cell HR1.out.obj 3).trans rfl
  have t2 : decide ((l.length : Int) < 0) = false := decide_eq_false (by omega)
  go_wp2_with (first
    | (go_at_call 113; (with_reducible refine (bits_OnesCount64.calls _ _ _ HON.out).mono ?_); rintro en w2 ⟨rfl, hd⟩; have HR2 := Aside0.mk (HR1.out.step hd.below); have HS2 := Aside0.mk (HS1.out.below hd.below); have HK2 := Aside0.mk (below_then hB1 hB1.size hd.below); have k0 := pw_cell_below hd.below k0; have k2 := pw_cell_below hd.below k2; have k3 := pw_cell_below hd.below k3; clear hd))
  (try simp only [Act.put, List.setIfInBounds_toArray, List.set_cons_zero, List.set_cons_succ])
  go_loopg [2, 13, 18, 19, 20] 0 (fun kq v2 v13 v18 v19 v20 wr => v2 = .slice As s.length cs ∧ v13 = .int .u64 ((e : Int) / 2 ^ low) ∧ v18 = .int .i64 (l.length : Int) ∧ v19 = .int .i64 0 ∧ v20 = .int .u64 (low : Int) ∧ Aside0 (RSt a0 a1 a2 a3 a4 a5 w0 gr gf gs S wr (b : Int) (e : Int) (.slice A l.length c) vs l V) ∧ Aside0 (Safe S wr As s) ∧ Aside0 (KeptS S w wr))
  case atStart => exact ⟨rfl, rfl, rfl, rfl, rfl, HR2, HS2, ⟨KeptS.below HK2.out⟩⟩
  case round =>
    clear k0 k1 k2 k3 HR2 HS2 HK2 HR1 HS1 HR HS t1 t1n t2
    obtain ⟨rfl, rfl, rfl, rfl, rfl, HR, HS, HKp⟩ := hrel
    rename World => wr
    have HSC := Aside0.mk hsc
    go_wp2
    obtain ⟨iL, hiL, hsL⟩ := Option.map_eq_some_iff.1 infoL
    have hcut1 : ∀ W : World, (Instr.slice 25 (.slice A l.length c) none (some (.int .i64 (l.length : Int))) none).run Tryd.prog W = .ok (.slice A l.length c) W := fun W => by
      have h := cut_to (P := Tryd.prog) 25 28 .i64 Tryd.underlying25 hiL A l.length c (l.length : Int) (by omega) (by omega) hlc W
      rw [Int.toNat_natCast] at h
      exact h
    have hcut2 : ∀ W : World, (Instr.slice 25 (.slice none 0 0) (some (.int .i64 0)) none none).run Tryd.prog W = .ok (.slice none 0 0) W := fun W => by kernel_rfl
    clear hiL hsL
    have HRz := Aside0.mk (HR.out.step (below_drew (Below.refl wr.heap.size wr)))
    have HSz := Aside0.mk (HS.out.below (below_drew (Below.refl wr.heap.size wr)))
    have HKz := Aside0.mk (HKp.out.trans (Grows.refl _ _) (KeptS.below (S := S) (below_drew (Below.refl wr.heap.size wr))))
    refine start_ (n := 17) (S := fun w' => w'.cell? ⟨gr, 3, none⟩ = some (.slice A l.length c)) (ds := [16]) #[false, false, false, false, false, false, false, false, false, false, false, false, false, false, false, false, false] (by kernel_rfl) rfl rfl ((blk_cell HRz.out.obj 3).trans rfl) (fun hHeld => ?_)
    generalize wr.drew = wz at HRz HSz HKz hHeld ⊢
    clear HR HS HKp
    refine pure_ (i := 0) (N := some 131) (v := ?_) (a' := ?_) #[true, false, false, false, false, false, false, false, false, false, false, false, false, false, false, false, false] rfl rfl (by kernel_rfl) (fun _ _ _ h => h) (Or.inl ⟨by rfl, ?_⟩) ?_ ?_
    rotate_left
    · intro w'
      go_simp
      with_reducible rfl
    rotate_left
    · simp only [Act.put, List.setIfInBounds_toArray, List.set_cons_zero, List.set_cons_succ]
      rfl
    refine pure_ (i := 1) (N := some 132) (v := ?_) (a' := ?_) #[true, true, false, false, false, false, false, false, false, false, false, false, false, false, false, false, false] rfl rfl (by kernel_rfl) (fun _ _ _ h => h) (Or.inl ⟨by rfl, ?_⟩) ?_ ?_
    rotate_left
    · intro w'
      go_simp
      with_reducible rfl
    rotate_left
    · simp only [Act.put, List.setIfInBounds_toArray, List.set_cons_zero, List.set_cons_succ]
      rfl
    refine pure_ (i := 2) (N := some 133) (v := ?_) (a' := ?_) #[true, true, true, false, false, false, false, false, false, false, false, false, false, false, false, false, false] rfl rfl (by kernel_rfl) (fun _ _ _ h => h) (Or.inl ⟨by rfl, ?_⟩) ?_ ?_
    rotate_left
    · intro w'
      go_simp
      with_reducible rfl
    rotate_left
    · simp only [Act.put, List.setIfInBounds_toArray, List.set_cons_zero, List.set_cons_succ]
      rfl
    refine pure_ (i := 3) (N := some 134) (v := ?_) (a' := ?_) #[true, true, true, true, false, false, false, false, false, false, false, false, false, false, false, false, false] rfl rfl (by kernel_rfl) (fun _ _ _ h => h) (Or.inl ⟨by rfl, ?_⟩) ?_ ?_
    rotate_left
    · intro w'
      go_simp
      with_reducible rfl
    rotate_left
    · simp only [Act.put, List.setIfInBounds_toArray, List.set_cons_zero, List.set_cons_succ]
      rfl
    refine take_ (i := 4) (N := some 135) (v := ?_) (a' := ?_) #[true, true, true, true, true, false, false, false, false, false, false, false, false, false, false, false, false] rfl rfl (by kernel_rfl) (fun _ _ _ h => h) (Or.inl ⟨by rfl, ?_⟩) hHeld ?_ ?_
    rotate_left
    · intro w' s0
      go_simp
      with_reducible rfl
    rotate_left
    · simp only [Act.put, List.setIfInBounds_toArray, List.set_cons_zero, List.set_cons_succ]
      rfl
    refine pure_ (i := 5) (N := some 136) (v := ?_) (a' := ?_) #[true, true, true, true, true, true, false, false, false, false, false, false, false, false, false, false, false] rfl rfl (by kernel_rfl) (fun _ _ _ h => h) (Or.inl ⟨by rfl, ?_⟩) ?_ ?_
    rotate_left
    · intro w'
      go_simp
      with_reducible rfl
    rotate_left
    · simp only [Act.put, List.setIfInBounds_toArray, List.set_cons_zero, List.set_cons_succ]
      rfl
    refine pure_ (i := 6) (N := some 137) (v := ?_) (a' := ?_) #[true, true, true, true, true, true, true, false, false, false, false, false, false, false, false, false, false] rfl rfl (by kernel_rfl) (fun _ _ _ h => h) (Or.inl ⟨by rfl, ?_⟩) ?_ ?_
    rotate_left
    · intro w'
      go_simp
      with_reducible rfl
    rotate_left
    · simp only [Act.put, List.setIfInBounds_toArray, List.set_cons_zero, List.set_cons_succ]
      rfl
    refine pure_ (i := 7) (N := some 138) (v := ?_) (a' := ?_) #[true, true, true, true, true, true, true, true, false, false, false, false, false, false, false, false, false] rfl rfl (by kernel_rfl) (fun _ _ _ h => h) (Or.inl ⟨by rfl, ?_⟩) ?_ ?_
    rotate_left
    · intro w'
      go_simp
      with_reducible rfl
    rotate_left
    · simp only [Act.put, List.setIfInBounds_toArray, List.set_cons_zero, List.set_cons_succ]
      rfl
    refine pure_ (i := 10) (N := some 141) (v := ?_) (a' := ?_) #[true, true, true, true, true, true, true, true, false, false, true, false, false, false, false, false, false] rfl rfl (by kernel_rfl) (fun _ _ _ h => h) (Or.inl ⟨by rfl, ?_⟩) ?_ ?_
    rotate_left
    · intro w'
      go_simp
      with_reducible rfl
    rotate_left
    · simp only [Act.put, List.setIfInBounds_toArray, List.set_cons_zero, List.set_cons_succ]
      rfl
    refine pure_ (i := 11) (N := some 142) (v := ?_) (a' := ?_) #[true, true, true, true, true, true, true, true, false, false, true, true, false, false, false, false, false] rfl rfl (by kernel_rfl) (fun _ _ _ h => h) (Or.inl ⟨by rfl, ?_⟩) ?_ ?_
    rotate_left
    · intro w'
      go_simp
      with_reducible rfl
    rotate_left
    · simp only [Act.put, List.setIfInBounds_toArray, List.set_cons_zero, List.set_cons_succ]
      rfl
    refine pure_ (i := 12) (N := some 143) (v := ?_) (a' := ?_) #[true, true, true, true, true, true, true, true, false, false, true, true, true, false, false, false, false] rfl rfl (by kernel_rfl) (fun _ _ _ h => h) (Or.inl ⟨by rfl, ?_⟩) ?_ ?_
    rotate_left
    · intro w'
      go_simp
      with_reducible rfl
    rotate_left
    · simp only [Act.put, List.setIfInBounds_toArray, List.set_cons_zero, List.set_cons_succ]
      rfl
    refine one_ (i := 8) (N := some 139) #[true, true, true, true, true, true, true, true, true, false, true, true, true, false, false, false, false] rfl rfl (by kernel_rfl) (by decide) (fun K hK => ?_)
    refine event_step rfl (v := .slice (some ⟨_, 0, none⟩) 1 1) (w1 := World.alloc _ (.cells #[.slice As s.length cs] 28)) (by first | (go_simp; done) | (go_simp; rfl) | (go_simp; exact ⟨rfl, rfl⟩)) ?_
    refine hK.out _ _ ((blk_cell (blk_below HRz.out.obj (below_alloc (Below.refl _ _) _)) 3).trans rfl) (fun hHeld => ?_)
    clear hK K
    refine norm_ (a' := ?_) ?_ ?_
    rotate_left
    · show Act.put _ (some 139) _ = _
      simp only [Act.put, List.setIfInBounds_toArray, List.set_cons_zero, List.set_cons_succ]
      rfl
    refine one_ (i := 9) (N := some 140) #[true, true, true, true, true, true, true, true, true, true, true, true, true, false, false, false, false] rfl rfl (by kernel_rfl) (by decide) (fun K hK => ?_)
    refine Kd.R_append_step (kG S wz) (w0 := w0) w0.heap.size rfl (.tmp 137) (.tmp 139) 25 28 (.slice none 0 0) 24 rfl Tryd.underlying25 infoL rfl Nat.zero_lt_one (by omega) (.slice A l.length c) l s [.slice As s.length cs] (fun _ => True) (fun _ => False) rfl rfl ⟨As, cs, rfl, HSC.out, HSz.out⟩ (fun _ h => h.elim) (fun _ _ => trivial) HRz.out.rows.row HRz.out.below HRz.out.below.size (by omega) ?_
    intro v1 w1 hR1 hB1 hG1 hA1
    have eqo : (Value.slice A l.length c).ownBlock = (Value.slice A l.length c).ownBlock := by cases A <;> rfl
    rw [eqo] at hG1 hA1
    have hz0 := lt_of_block HRz.out.obj
    have hne3 : some gr ≠ (Value.slice A l.length c).ownBlock := fun he => (HRz.out.rown gr he.symm).2.2 rfl
    have hobj1 := (hG1.block gr hz0 hne3).trans HRz.out.obj
    refine hK.out _ _ ((blk_cell hobj1 3).trans rfl) (fun hHeld => ?_)
    clear hK K
    refine norm_ (a' := ?_) ?_ ?_
    rotate_left
    · show Act.put _ (some 140) _ = _
      simp only [Act.put, List.setIfInBounds_toArray, List.set_cons_zero, List.set_cons_succ]
      rfl
    refine one_ (i := 13) (N := some 144) #[true, true, true, true, true, true, true, true, true, true, true, true, true, true, false, false, false] rfl rfl (by kernel_rfl) (by decide) (fun K hK => ?_)
    refine Kd.R_append_rows_step (kG S wz) (Rr := fun _ _ => False) (w0 := w0) w0.heap.size rfl (.tmp 140) (.tmp 143) 25 28 (.slice none 0 0) 24 rfl Tryd.underlying25 infoL rfl Nat.zero_lt_one (by omega) v1 (l ++ [s]) [] none 0 0 (fun _ => True) (fun _ => False) rfl rfl hR1 ⟨rfl, by simp, fun h => by simp at h⟩ (fun _ _ h => h.elim) (fun _ h => h.elim) (fun _ _ => trivial) hB1 (hB1.size) (by rw [List.length_append, List.length_singleton]; omega) ?_
    intro v2 w2' hR2 hB2 hG2 hA2
    have hsz1 : wz.heap.size ≤ w1.heap.size := hG1.size
    have hsz2 : w1.heap.size ≤ w2'.heap.size := hG2.size
    have own1 : ∀ q, q < wz.heap.size → some q ≠ (Value.slice A l.length c).ownBlock → some q ≠ v1.ownBlock := fun q hq hne he => by
      rcases hA1 with h1 | ⟨b1, h1, h2⟩
      · exact hne (he.trans h1)
      · rw [h1] at he
        injection he with he
        omega
    have hG12 : ∀ q, q < wz.heap.size → some q ≠ (Value.slice A l.length c).ownBlock → w2'.heap[q]? = wz.heap[q]? := fun q hq hne => (hG2.block q (by omega) (own1 q hq hne)).trans (hG1.block q hq hne)
    have hA12 : v2.ownBlock = (Value.slice A l.length c).ownBlock ∨ ∃ q, v2.ownBlock = some q ∧ wz.heap.size ≤ q := by
      rcases hA2 with h1 | ⟨b1, h1, h2⟩
      · rcases hA1 with h3 | ⟨b3, h3, h4⟩
        · exact .inl (h1.trans h3)
        · exact .inr ⟨b3, h1.trans h3, h4⟩
      · exact .inr ⟨b1, h1, by omega⟩
    rw [List.append_nil] at hR2
    have hobj2 := (hG12 gr hz0 hne3).trans HRz.out.obj
    obtain ⟨hP1, hP2, hP3⟩ := HRz.out.put hR2 hG12 (Nat.le_trans hsz1 hsz2) hB2 hA12 (x : Int)
    obtain ⟨Av, cv, rfl⟩ := Kd.R_slice hR2
    refine hK.out _ _ ((blk_cell hobj2 3).trans rfl) (fun hHeld => ?_)
    clear hK K
    refine norm_ (a' := ?_) ?_ ?_
    rotate_left
    · show Act.put _ (some 144) _ = _
      simp only [Act.put, List.setIfInBounds_toArray, List.set_cons_zero, List.set_cons_succ]
      rfl
    refine pure_ (i := 14) (N := some 145) (v := ?_) (a' := ?_) #[true, true, true, true, true, true, true, true, true, true, true, true, true, true, true, false, false] rfl rfl (by kernel_rfl) (fun _ _ _ h => h) (Or.inl ⟨by rfl, ?_⟩) ?_ ?_
    rotate_left
    · intro w'
      go_simp
      with_reducible rfl
    rotate_left
    · simp only [Act.put, List.setIfInBounds_toArray, List.set_cons_zero, List.set_cons_succ]
      rfl
    refine pure_ (i := 15) (N := some 146) (v := ?_) (a' := ?_) #[true, true, true, true, true, true, true, true, true, true, true, true, true, true, true, true, false] rfl rfl (by kernel_rfl) (fun _ _ _ h => h) (Or.inl ⟨by rfl, ?_⟩) ?_ ?_
    rotate_left
    · intro w'
      go_simp
      with_reducible rfl
    rotate_left
    · simp only [Act.put, List.setIfInBounds_toArray, List.set_cons_zero, List.set_cons_succ]
      rfl
    have hc3 : w2'.cell? ⟨gr, 3, none⟩ = some (.slice A l.length c) := (blk_cell hobj2 3).trans rfl
    have hf3 : w2'.frozen? ⟨gr, 3, none⟩ = false := blk_frozen hobj2 3
    clear hHeld
    refine last_ (i := 16) (N := none) #[true, true, true, true, true, true, true, true, true, true, true, true, true, true, true, true, true] rfl rfl (by kernel_rfl) (by simp) (fun K hK => ?_)
    refine store_step rfl (w1 := w2'.setCell ⟨gr, 3, none⟩ (.slice Av (l ++ [s]).length cv)) (by first | (go_simp; done) | (go_simp; rfl) | (go_simp; exact ⟨rfl, rfl⟩)) ?_
    refine hK.out _ _ ?_
    clear hK K
    refine norm_ (a' := ?_) ?_ ?_
    rotate_left
    · show Act.put _ none _ = _
      first | rfl | (simp only [Act.put]; rfl) | simp only [Act.put]
    refine done_ (by kernel_rfl) ?_
    have hobj3 := blk_set hobj2 3 (.slice Av (l ++ [s]).length cv)
    have hc2 : (w2'.setCell ⟨gr, 3, none⟩ (.slice Av (l ++ [s]).length cv)).cell? ⟨gr, 2, none⟩ = some (.int .u64 (e : Int)) := (blk_cell hobj3 2).trans (by simp)
    have hf2 : (w2'.setCell ⟨gr, 3, none⟩ (.slice Av (l ++ [s]).length cv)).frozen? ⟨gr, 2, none⟩ = false := blk_frozen hobj3 2
    generalize (w2'.setCell ⟨gr, 3, none⟩ (.slice Av (l ++ [s]).length cv)) = w9 at hP1 hP3 hc2 hf2 ⊢
    have HP1 := Aside0.mk hP1
    have HP3 := Aside0.mk hP3
    have HP2 := Aside0.mk hP2
    clear hP1 hP2 hP3 hobj1 hobj2 hobj3 hc3 hf3 hG12 hA12 hG1 hA1 hB1 hR1 hG2 hA2 hB2 hR2 own1 hne3 eqo
    go_wp2
    go_ret
    have hGw : Grows S _ w := ⟨HP2.out.1, fun i hi => (HP2.out.2 i hi).imp id fun h => Nat.le_trans HKz.out.size h⟩
    exact ⟨_, _, _, rfl, HP1.out, hGw, HKz.out.trans hGw HP3.out⟩
end Go.Proofs.YtfhcpniibiobgaaDoor.Qf
namespace Go.Proofs.YtfhcpniibiobgaaDoor.Qf
open Go.RowKit Go.Proofs.YtfhcpniibiobgaaDoorW.PrintWords Go.Proofs.YtfhcpniibiobgaaDoorW.PrintLast Go.Proofs.YtfhcpniibiobgaaDoorW.PrintMore
open Hs (CB CL at_L at_B infoB infoL R_of_blk)
set_option maxHeartbeats 4000000 in
set_option maxRecDepth 100000 in
theorem append_of (a0 a1 a2 a3 a4 a5 : Int) (w0 : World) (gr gf gs : Nat) (S : Nat → Prop) (w : World) (b e : Nat) (vr vs : Value) (l l' : List (List Int)) (V V' : List Vis) (As : Option Addr) (cs : Nat) (s : List Int) (h : RSt a0 a1 a2 a3 a4 a5 w0 gr gf gs S w (b : Int) (e : Int) vr vs l V) (hs : Safe S w As s) (hsl : s.length ≤ 140737488351232) (hn0 : V.length ≤ 1000) (he : e + 1 < 18446744073709551616)
    (hA : ∀ (S1 : Nat → Prop) (w1 : World) (vs1 : Value), RSt a0 a1 a2 a3 a4 a5 w0 gr gf gs S1 w1 (b : Int) (e : Int) vr vs1 l (V ++ [(0, (e : Int), s)]) → Safe S1 w1 As s →
      Calls Tryd.prog 98 #[.pointer (some ⟨gr, 0, none⟩), .int .u64 ((e : Int) + 1), .slice As s.length cs, .slice none 0 0, .func (.func 64) #[] #[.pointer (some ⟨gs, 0, none⟩)]] w1 fun en w' => ∃ vr' vs' S', en = .returned .nilIface ∧ RSt a0 a1 a2 a3 a4 a5 w0 gr gf gs S' w' (b : Int) ((e : Int) + 1) vr' vs' l' V' ∧ Grows S1 S' w1 ∧ KeptS S' w1 w') :
    Calls Tryd.prog 63 #[.pointer (some ⟨gr, 0, none⟩), .slice As s.length cs, .func (.func 64) #[] #[.pointer (some ⟨gs, 0, none⟩)]] w fun en w' => ∃ vr' vs' S', en = .returned .nilIface ∧ RSt a0 a1 a2 a3 a4 a5 w0 gr gf gs S' w' (b : Int) ((e : Int) + 1) vr' vs' l' V' ∧ Grows S S' w ∧ KeptS S' w w' := by
  have HR := Aside0.mk h
  have HS := Aside0.mk hs
  have HA := Aside0.mk hA
  have HK : Aside0 (KeptS S w w) := ⟨KeptS.refl _ _⟩
  clear h hs hA
  have hne := visA_ne gs
  have hw : ∀ z : Int, z = 1 → IntKind.u64.wrap ((e : Int) + z) = (e : Int) + 1 := fun z hz => by
    rw [hz]
    show ((e : Int) + 1) % 18446744073709551616 = _
    omega
  have k2 : w.cell? ⟨gr, 2, none⟩ = some (.int .u64 (e : Int)) := (blk_cell HR.out.obj 2).trans rfl
  go_enter Tryd.func63, Tryd.ntmps63
  go_wp2_with (first
    | (go_at_call 90; (with_reducible refine (compact_NewNodeID.calls _ _ _ _ _ rfl).mono ?_); rintro en w5 ⟨rfl, hb⟩; have HK := Aside0.mk (HK.out.trans (Grows.refl _ _) (KeptS.below hb)); have HS := Aside0.mk (HS.out.below hb); have HR := Aside0.mk (HR.out.step hb); clear hb)
    | (go_at_call 64; (with_reducible refine (HR.out.visit _ _ As cs s HS.out hsl hn0).mono ?_); rintro en w6 ⟨v0, vs6, S6, rfl, hR6, hG6, hK6⟩; have HR6 := Aside0.mk hR6; have HG6 := Aside0.mk (show Grows S S6 w from ⟨hG6.1, fun i hi => (hG6.2 i hi).imp id fun h => Nat.le_trans HK.out.size h⟩); have HS6 := Aside0.mk (HS.out.step hG6 hK6); have HK6 := Aside0.mk (HK.out.trans HG6.out hK6); have k2 : w6.cell? ⟨gr, 2, none⟩ = some (.int .u64 (e : Int)) := (blk_cell HR6.out.obj 2).trans rfl; clear hR6 hG6 hK6)
    | (go_at_call 98; (with_reducible refine (HA.out S6 w6 vs6 HR6.out HS6.out).mono ?_); rintro en w7 ⟨vr7, vs7, S7, rfl, hR7, hG7, hK7⟩; have HR7 := Aside0.mk hR7; have HG7 := Aside0.mk (show Grows S6 S7 w from ⟨hG7.1, fun i hi => (hG7.2 i hi).imp id fun h => Nat.le_trans HK6.out.size h⟩); have HK7 := Aside0.mk (HK6.out.trans HG7.out hK7); clear hR7 hG7 hK7))
  go_ret
  exact ⟨_, _, _, rfl, HR7.out, HG6.out.trans (Nat.le_refl _) HG7.out, HK7.out⟩
end Go.Proofs.YtfhcpniibiobgaaDoor.Qf
namespace Go.Proofs.YtfhcpniibiobgaaDoor.Qf
open Go.RowKit Go.Proofs.YtfhcpniibiobgaaDoorW.PrintWords Go.Proofs.YtfhcpniibiobgaaDoorW.PrintLast Go.Proofs.YtfhcpniibiobgaaDoorW.PrintMore
open Hs (CB CL at_L at_B infoB infoL R_of_blk)

theorem Rows.cl {S : Nat → Prop} {w : World} {base : Nat} {v : Value} {l : List (List Int)} (h : Rows S w base v l) : ∃ A c, v = .slice A l.length c ∧ l.length ≤ c ∧ CL w A l := by
  obtain ⟨A, c, e, hl, hC⟩ := Kd.R_reads h.row
  exact ⟨A, c, e, hl, ReadsRow.imp_ hC (Below.refl _ _) fun _ _ ⟨A', c', e1, e2, e3⟩ => ⟨A', c', e1, e2, e3.bytes⟩⟩

set_option maxHeartbeats 1000000 in
set_option maxRecDepth 100000 in
theorem rBegin_calls (gr : Nat) (v0 v1 v2 v3 : Value) (w : World) (h : w.heap[gr]? = some (.cells #[v0, v1, v2, v3] 151 (0, 0))) :
    Calls Tryd.prog 99 #[.pointer (some ⟨gr, 0, none⟩)] w fun en w' => en = .returned v1 ∧ Below w.heap.size w w' := by
  have k1 : w.cell? ⟨gr, 1, none⟩ = some v1 := (blk_cell h 1).trans rfl
  clear h
  go_enter Tryd.func99, Tryd.ntmps99
  go_wp2
  go_ret
  exact ⟨rfl, Below.refl _ _⟩
set_option maxHeartbeats 1000000 in
set_option maxRecDepth 100000 in
theorem rEnd_calls (gr : Nat) (v0 v1 v2 v3 : Value) (w : World) (h : w.heap[gr]? = some (.cells #[v0, v1, v2, v3] 151 (0, 0))) :
    Calls Tryd.prog 100 #[.pointer (some ⟨gr, 0, none⟩)] w fun en w' => en = .returned v2 ∧ Below w.heap.size w w' := by
  have k1 : w.cell? ⟨gr, 2, none⟩ = some v2 := (blk_cell h 2).trans rfl
  clear h
  go_enter Tryd.func100, Tryd.ntmps100
  go_wp2
  go_ret
  exact ⟨rfl, Below.refl _ _⟩
set_option maxHeartbeats 1000000 in
set_option maxRecDepth 100000 in
theorem rHashes_calls (gr : Nat) (v0 v1 v2 v3 : Value) (w : World) (h : w.heap[gr]? = some (.cells #[v0, v1, v2, v3] 151 (0, 0))) :
    Calls Tryd.prog 101 #[.pointer (some ⟨gr, 0, none⟩)] w fun en w' => en = .returned v3 ∧ Below w.heap.size w w' := by
  have k1 : w.cell? ⟨gr, 3, none⟩ = some v3 := (blk_cell h 3).trans rfl
  clear h
  go_enter Tryd.func101, Tryd.ntmps101
  go_wp2
  go_ret
  exact ⟨rfl, Below.refl _ _⟩

set_option maxHeartbeats 2000000 in
set_option maxRecDepth 100000 in
theorem fromRange_calls (gr : Nat) (v0 : Value) (b e : Int) (A : Option Addr) (c : Nat) (l : List (List Int)) (k : Nat) (w : World) (h : w.heap[gr]? = some (.cells #[v0, .int .u64 b, .int .u64 e, .slice A l.length c] 151 (0, 0))) (hl : CL w A l) (hc : l.length ≤ c) (htx : impl_texts.f k l = some l) :
    Calls Tryd.prog 65 #[.pointer (some ⟨gr, 0, none⟩)] w fun en w' => ∃ v, en = .returned (.agg #[.int .u64 b, .int .u64 e, v]) ∧ Kd.S (Kd.slice 5 (Kd.int .u8)) 28 w' w.heap.size (fun _ => True) v l ∧ Below w.heap.size w w' := by
  have RB := Aside0.mk h
  have HL := Aside0.mk hl
  have HTX := Aside0.mk htx
  clear h hl htx
  go_enter Tryd.func65, Tryd.ntmps65
  have HB0 := Aside0.mk (below_alloc (Below.refl w.heap.size w) (.cells #[.int .u64 0, .int .u64 0, .slice none 0 0] 35))
  have SK := Aside0.mk (heap_alloc_new w (.cells #[.int .u64 0, .int .u64 0, .slice none 0 0] 35))
  go_wp2_with (first
    | (go_at_call 99; (with_reducible refine (rBegin_calls gr v0 _ _ _ _ (blk_below RB.out HB0.out)).mono ?_); rintro en w1 ⟨rfl, hb⟩; have HB1 := Aside0.mk (below_then HB0.out HB0.out.size hb); have SK1 := Aside0.mk (blk_below SK.out hb); clear hb)
    | (go_at_call 100; (with_reducible refine (rEnd_calls gr v0 _ _ _ _ (blk_below RB.out HB1.out)).mono ?_); rintro en w2 ⟨rfl, hb⟩; have HB2 := Aside0.mk (below_then HB1.out HB1.out.size hb); have SK2 := Aside0.mk (blk_below SK1.out hb); clear hb)
    | (go_at_call 101; (with_reducible refine (rHashes_calls gr v0 _ _ _ _ (blk_below RB.out HB2.out)).mono ?_); rintro en w3 ⟨rfl, hb⟩; have HB3 := Aside0.mk (below_then HB2.out HB2.out.size hb); have SK3 := Aside0.mk (blk_below SK2.out hb); clear hb)
    | (go_at_call 48; (with_reducible refine (impl_texts.calls k A c l l _ (Kd.C_below HL.out HB3.out) hc HTX.out).mono ?_); rintro e' w4 ⟨v1, rfl, hS, hb⟩; obtain ⟨B4, d4, rfl, _, _⟩ := Kd.S_reads hS; have HS4 := Aside0.mk (Kd.S_lower hS HB3.out.size); have HB4 := Aside0.mk (below_then HB3.out HB3.out.size hb); have SK4 := Aside0.mk (blk_below SK3.out hb); have c0 : w4.cell? ⟨w.heap.size, 0, none⟩ = some (.int .u64 0) := (blk_cell SK4.out 0).trans rfl; have c1 : w4.cell? ⟨w.heap.size, 1, none⟩ = some (.int .u64 0) := (blk_cell SK4.out 1).trans rfl; have c2 : w4.cell? ⟨w.heap.size, 2, none⟩ = some (.slice none 0 0) := (blk_cell SK4.out 2).trans rfl; clear hS hb; have f0 : w4.frozen? ⟨w.heap.size, 0, none⟩ = false := blk_frozen SK4.out 0; have SK5 := Aside0.mk (by simpa using blk_set SK4.out 0 (.int .u64 b)); have f1 : (w4.setCell ⟨w.heap.size, 0, none⟩ (.int .u64 b)).frozen? ⟨w.heap.size, 1, none⟩ = false := blk_frozen SK5.out 1; have SK6 := Aside0.mk (by simpa using blk_set SK5.out 1 (.int .u64 e)); have f2 : ((w4.setCell ⟨w.heap.size, 0, none⟩ (.int .u64 b)).setCell ⟨w.heap.size, 1, none⟩ (.int .u64 e)).frozen? ⟨w.heap.size, 2, none⟩ = false := blk_frozen SK6.out 2))
  have SK7 := Aside0.mk (by simpa using blk_set SK6.out 2 (.slice B4 l.length d4))
  have g0 : (((w4.setCell ⟨w.heap.size, 0, none⟩ (.int .u64 b)).setCell ⟨w.heap.size, 1, none⟩ (.int .u64 e)).setCell ⟨w.heap.size, 2, none⟩ (.slice B4 l.length d4)).cell? ⟨w.heap.size, 0, none⟩ = some (.int .u64 b) := (blk_cell SK7.out 0).trans rfl
  have g1 : (((w4.setCell ⟨w.heap.size, 0, none⟩ (.int .u64 b)).setCell ⟨w.heap.size, 1, none⟩ (.int .u64 e)).setCell ⟨w.heap.size, 2, none⟩ (.slice B4 l.length d4)).cell? ⟨w.heap.size, 1, none⟩ = some (.int .u64 e) := (blk_cell SK7.out 1).trans rfl
  have g2 : (((w4.setCell ⟨w.heap.size, 0, none⟩ (.int .u64 b)).setCell ⟨w.heap.size, 1, none⟩ (.int .u64 e)).setCell ⟨w.heap.size, 2, none⟩ (.slice B4 l.length d4)).cell? ⟨w.heap.size, 2, none⟩ = some (.slice B4 l.length d4) := (blk_cell SK7.out 2).trans rfl
  refine bodyPost_ret (v := .agg #[.int .u64 b, .int .u64 e, .slice B4 l.length d4]) (by simp [results, Tryd.results65, go_sem, g0, g1, g2]) rfl ⟨_, rfl, ?_, ?_⟩
  · exact Kd.S_set (Kd.S_set (Kd.S_set HS4.out SK4.out (by decide) 0 _) SK5.out (by decide) 1 _) SK6.out (by decide) 2 _
  · exact Below.setCell (Below.setCell (Below.setCell HB4.out (Nat.le_refl _) _) (Nat.le_refl _) _) (Nat.le_refl _) _
end Go.Proofs.YtfhcpniibiobgaaDoor.Qf
namespace Go.Proofs.YtfhcpniibiobgaaDoor.Qf
open Go.RowKit Go.Proofs.YtfhcpniibiobgaaDoorW.PrintWords Go.Proofs.YtfhcpniibiobgaaDoorW.PrintLast Go.Proofs.YtfhcpniibiobgaaDoorW.PrintMore
open Hs (CB CL at_L at_B infoB infoL R_of_blk)

/-- What one leaf more makes of a range's hashes, and what it shows. -/
def MStep (a0 a1 a2 a3 a4 a5 : Int) (b e : Nat) (l : List (List Int)) (s : List Int) (l' : List (List Int)) (V : List Vis) : Prop :=
  ∃ low hgh : Nat, compact_getMergePath.f (b : Int) (e : Int) ((e + 1 : Nat) : Int) = some ((low : Int), (hgh : Int)) ∧
    ((hgh < low ∧ low ≤ 64 ∧ bits_OnesCount64.f (Go.bits .and .u64 ((e : Int) / 2 ^ low) 0) = some 0 ∧ l' = l ++ [s] ∧ V = [(0, (e : Int), s)]) ∨
    ∃ (n : Nat) (t : List Int), low + n = hgh ∧ hgh ≤ 64 ∧ n ≤ l.length ∧ bits_OnesCount64.f (Go.bits .and .u64 ((e : Int) / 2 ^ low) (IntKind.u64.wrap (IntKind.u64.wrap ((2 : Int) ^ n) - 1))) = some (n : Int) ∧ (∀ i, i < n → e / 2 ^ low / 2 ^ i % 2 = 1) ∧ mgO a0 a1 a2 a3 a4 a5 l n s = some t ∧ l' = l.take (l.length - n) ++ [t] ∧ V = (0, (e : Int), s) :: visL a0 a1 a2 a3 a4 a5 low (e / 2 ^ low) l s n)

section
variable {a0 a1 a2 a3 a4 a5 : Int} {w0 : World} {gr gf gs : Nat} {S : Nat → Prop} {w w' : World} {b e : Nat} {vr vs : Value} {l l' : List (List Int)} {V V' : List Vis}
theorem MStep.calls {s : List Int} (hm : MStep a0 a1 a2 a3 a4 a5 b e l s l' V') (As : Option Addr) (cs : Nat) (h : RSt a0 a1 a2 a3 a4 a5 w0 gr gf gs S w (b : Int) (e : Int) vr vs l V) (hs : Safe S w As s) (hsc : s.length ≤ cs) (hsl : s.length ≤ 140737488351232) (HG_ : Glob w0) (he : e + 1 < 18446744073709551616) (hl : l.length ≤ 500) (hn : V.length + l.length ≤ 900) :
    Calls Tryd.prog 63 #[.pointer (some ⟨gr, 0, none⟩), .slice As s.length cs, .func (.func 64) #[] #[.pointer (some ⟨gs, 0, none⟩)]] w fun en w' => ∃ vr' vs' S', en = .returned .nilIface ∧ RSt a0 a1 a2 a3 a4 a5 w0 gr gf gs S' w' (b : Int) ((e : Int) + 1) vr' vs' l' (V ++ V') ∧ Grows S S' w ∧ KeptS S' w w' := by
  obtain ⟨low, hgh, hmp, hc⟩ := hm
  rcases hc with ⟨h1, h2, h3, h4, h5⟩ | ⟨k, t, h1, h2, h3, h4, h5, h6, h7, h8⟩
  · refine append_of a0 a1 a2 a3 a4 a5 w0 gr gf gs S w b e vr vs l l' V (V ++ V') As cs s h hs hsl (by omega) he (fun S1 w1 vs1 hR hS => ?_)
    subst h4 h5
    have := appendImpl_none a0 a1 a2 a3 a4 a5 w0 gr gf gs S1 w1 b e (e + 1) vr vs1 l _ As cs s low hgh hR hS hsc HG_ hmp h1 h2 (by omega) h3
    rwa [show (((e + 1 : Nat) : Int)) = (e : Int) + 1 by omega] at this
  · refine append_of a0 a1 a2 a3 a4 a5 w0 gr gf gs S w b e vr vs l l' V (V ++ V') As cs s h hs hsl (by omega) he (fun S1 w1 vs1 hR hS => ?_)
    subst h7 h8
    have := appendImpl_one a0 a1 a2 a3 a4 a5 w0 gr gf gs S1 w1 b e (e + 1) vr vs1 l _ As cs s t low hgh k hR hS hsc HG_ (by omega) hmp (by omega) h1 h2 h3 (by rw [List.length_append]; simp; omega) (by omega) h4 h5 h6
    rwa [show (((e + 1 : Nat) : Int)) = (e : Int) + 1 by omega, List.append_assoc] at this
end

/-- The leaves' row: its blocks are none that change. -/
structure LRow (S : Nat → Prop) (w : World) (A : Option Addr) (M : List (List Int)) : Prop where
  get : ∀ j, j < M.length → ∃ ad A0 c0, A = some ad ∧ w.cell? (ad.add j) = some (.slice A0 (M.getD j []).length c0) ∧ (M.getD j []).length ≤ c0 ∧ Safe S w A0 (M.getD j []) ∧ ad.block < w.heap.size ∧ ¬ S ad.block
theorem LRow.step {S S' : Nat → Prop} {w w' : World} {A : Option Addr} {M : List (List Int)} (h : LRow S w A M) (g : Grows S S' w) (k : KeptS S' w w') : LRow S' w' A M where
  get := fun j hj => by
    obtain ⟨ad, A0, c0, e1, e2, e3, e4, e5, e6⟩ := h.get j hj
    have hn : ¬ S' ad.block := fun hs => by
      rcases g.2 _ hs with h1 | h1
      · exact e6 h1
      · omega
    refine ⟨ad, A0, c0, e1, ?_, e3, e4.step g k, Nat.lt_of_lt_of_le e5 k.size, hn⟩
    rw [← e2]
    unfold World.cell?
    rw [show (ad.add j).block = ad.block by unfold Addr.add; split <;> rfl, k.block _ e5 hn]
theorem LRow.new {S : Nat → Prop} {w w' : World} {v : Value} {M : List (List Int)} (hS : ∀ k, S k → k < w.heap.size) (h : Kd.S (Kd.slice 5 (Kd.int .u8)) 28 w' w.heap.size (fun _ => True) v M) : ∃ A c, v = .slice A M.length c ∧ M.length ≤ c ∧ LRow S w' A M := by
  have hR := Kd.S_R h
  obtain ⟨A, c, e, hl, hr⟩ := OwnRow.reads hR.2
  have hC : (kG S w').C w' A M.length M := hr.imp_ (Below.refl _ _) fun x cs hp => by
    obtain ⟨u, ecs, hu⟩ := hp
    obtain ⟨A', c', e', hl', _⟩ := Kd.R_reads hu
    subst e'
    exact ⟨A', c', ecs, hl', Safe.new hS (Kd.R_mono hu (fun _ _ => trivial))⟩
  refine ⟨A, c, e, hl, ⟨fun j hj => ?_⟩⟩
  obtain ⟨ad, cs, ea, _, hK, hc0⟩ := Kd.C_get hC ([] : List Int) (j : Int) (by omega) (by omega)
  simp only [Int.toNat_natCast] at hK hc0
  have hc : ∀ i u, cs[i]? = some u → w'.cell? (ad.add (j * 1 + i)) = some u := hc0
  obtain ⟨A0, c0, rfl, l0, g0⟩ := hK
  subst ea e
  have hb : w.heap.size ≤ ad.block := Kd.R_base hR _ rfl
  exact ⟨ad, A0, c0, rfl, by have hq := hc 0 _ rfl; rwa [Nat.mul_one, Nat.add_zero] at hq, l0, g0, Kd.R_lt hR _ rfl, fun hs => by have := hS _ hs; omega⟩

theorem RSt.init {a0 a1 a2 a3 a4 a5 : Int} {w0 W1 w2 w3 : World} {gr gf : Nat} {b e : Int} {vr : Value} {l : List (List Int)} (hB1 : Below w0.heap.size w0 W1) (hfac : W1.heap[gf]? = some (facObj a0 a1 a2 a3 a4 a5)) (hS : Kd.S (Kd.slice 5 (Kd.int .u8)) 28 w2 W1.heap.size (fun _ => True) vr l) (hb2 : Below W1.heap.size W1 w2) (hg : w2.heap.size ≤ gr) (hgl : gr < w3.heap.size) (hobj : w3.heap[gr]? = some (.cells #[.pointer (some ⟨gf, 0, none⟩), .int .u64 b, .int .u64 e, vr] 151 (0, 0))) (hb3 : Below w2.heap.size w2 w3) :
    RSt a0 a1 a2 a3 a4 a5 w0 gr gf w3.heap.size (fun k => k = gr ∨ k = w3.heap.size ∨ vr.ownBlock = some k) (w3.alloc (.cells #[.slice none 0 0] 37)) b e vr (.slice none 0 0) l [] := by
  have hfl := lt_of_block hfac
  have s1 := hB1.size
  have s2 := hb2.size
  have s3 := hb3.size
  have hR := Kd.R_bound (Kd.S_R hS)
  have hbn : ∀ k, vr.ownBlock = some k → W1.heap.size ≤ k ∧ k < w2.heap.size := fun k hk => ⟨Kd.R_base hR k hk, Kd.R_lt hR k hk⟩
  have b4 : Below w3.heap.size w3 (w3.alloc (.cells #[.slice none 0 0] 37)) := below_alloc (Below.refl _ _) _
  have s4 : (w3.alloc (.cells #[.slice none 0 0] 37)).heap.size = w3.heap.size + 1 := by simp
  have b24 := below_step hb3 b4
  have b14 := below_step hb2 b24
  have b04 := below_step hB1 b14
  exact {
    below := b04
    base := fun k hk => by
      rcases hk with rfl | rfl | hk
      · omega
      · omega
      · have := (hbn k hk).1
        omega
    top := fun k hk => by
      rw [s4]
      rcases hk with rfl | rfl | hk
      · omega
      · omega
      · have := (hbn k hk).2
        omega
    fac := blk_below hfac b14
    nfac := fun hk => by
      rcases hk with h1 | h1 | hk
      · omega
      · omega
      · have := (hbn gf hk).1
        omega
    obj := blk_below hobj b4
    sobj := .inl rfl
    rows := ⟨by
      obtain ⟨h0, inner, hown, hr⟩ := Kd.R_lower (Kd.R_below hR b24) (by omega : w0.heap.size ≤ W1.heap.size)
      refine ⟨fun _ _ => trivial, inner, hown, hr.imp_ fun x cs hp => ?_⟩
      obtain ⟨u, ecs, hu⟩ := hp
      obtain ⟨A', c', e', hl', hC'⟩ := Kd.R_reads hu
      subst e'
      refine ⟨A', c', ecs, hl', ⟨hC', fun _ ad ea => ?_⟩⟩
      subst ea
      obtain ⟨⟨_, q1, q2, _⟩, q3⟩ := hu.1 ad.block rfl
      refine ⟨by rw [s4]; omega, fun hk => ?_⟩
      rcases hk with h1 | h1 | hk
      · omega
      · omega
      · exact q3 hk.symm, fun k hk => .inr (.inr hk)⟩
    seen := heap_alloc_new _ _
    sseen := .inr (.inl rfl)
    srow := Kd.R_nil _ _ _ _ _
    sown := fun k hk => by simp [Value.ownBlock] at hk }
end Go.Proofs.YtfhcpniibiobgaaDoor.Qf
