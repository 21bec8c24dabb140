/- appendImpl of one leaf that merges nothing, walked (made by gen_gd.py of XGc). -/
import Derived.Test.YtfhcpniibiobgaaDoorRc
namespace Go.Proofs.YtfhcpniibiobgaaDoor.Qf
open Go.RowKit Go.Proofs.YtfhcpniibiobgaaDoorW.PrintWords Go.Proofs.YtfhcpniibiobgaaDoorW.PrintLast Go.Proofs.YtfhcpniibiobgaaDoorW.PrintMore
open Hs (CB CL at_L at_B infoB infoL R_of_blk)
set_option maxHeartbeats 4000000 in
set_option maxRecDepth 100000 in
theorem appendR_none (a0 a1 a2 a3 a4 a5 : Int) (w0 : World) (gr gf gs : Nat) (S : Nat → Prop) (w : World) (b e x : Nat) (vr vs : Value) (l : List (List Int)) (n0 : Nat) (As : Option Addr) (cs : Nat) (s : List Int) (Am : Option Addr) (cm : Nat) (m : List (List Int)) (low hgh : Nat) (h : RSt a0 a1 a2 a3 a4 a5 w0 gr gf gs S w (b : Int) (e : Int) vr vs l n0) (hs : Safe S w As s) (hsc : s.length ≤ cs) (hmr : LRow S w Am m) (hmc : m.length ≤ cm) (hml : m.length ≤ 500) (HG_ : Glob w0)
    (hmp : compact_getMergePath.f (b : Int) (e : Int) (x : Int) = some ((low : Int), (hgh : Int))) (hlh : hgh < low) (hh : low ≤ 64) (hll : l.length ≤ 500)
    (hones : bits_OnesCount64.f (Go.bits .and .u64 ((e : Int) / 2 ^ low) 0) = some 0) :
    Calls Tryd.prog 98 #[.pointer (some ⟨gr, 0, none⟩), .int .u64 (x : Int), .slice As s.length cs, .slice Am m.length cm, .func (.func 71) #[] #[.pointer (some ⟨gs, 0, none⟩)]] w fun en w' => ∃ vr' vs' S', en = .returned .nilIface ∧ RSt a0 a1 a2 a3 a4 a5 w0 gr gf gs S' w' (b : Int) (x : Int) vr' vs' (l ++ [s] ++ m) n0 ∧ Grows S S' w ∧ KeptS S' w w' := by
  have HR := Aside0.mk h
  have HS := Aside0.mk hs
  have HG := Aside0.mk HG_
  have HMP := Aside0.mk hmp
  have HON := Aside0.mk hones
  have HLR := Aside0.mk hmr
  have HMC := Aside0.mk hmc
  have HML := Aside0.mk hml
  have HLL := Aside0.mk hll
  clear h hs HG_ hmp hones hmr
  obtain ⟨A, c, rfl, hlc, _⟩ := Kd.R_reads HR.out.rows.row
  have k0 : w.cell? ⟨gr, 0, none⟩ = some (.pointer (some ⟨gf, 0, none⟩)) := (blk_cell HR.out.obj 0).trans rfl
  have k1 : w.cell? ⟨gr, 1, none⟩ = some (.int .u64 (b : Int)) := (blk_cell HR.out.obj 1).trans rfl
  have k2 : w.cell? ⟨gr, 2, none⟩ = some (.int .u64 (e : Int)) := (blk_cell HR.out.obj 2).trans rfl
  have k3 : w.cell? ⟨gr, 3, none⟩ = some (.slice A l.length c) := (blk_cell HR.out.obj 3).trans rfl
  have t1 : decide ((hgh : Int) < (low : Int)) = true := decide_eq_true (by omega)
  have t1n : decide (hgh < low) = true := decide_eq_true (by omega)
  go_enter Tryd.func98, Tryd.ntmps98
  go_wp2
  go_region_held3 (fun w' => w'.cell? ⟨gr, 1, none⟩ = some (.int .u64 (b : Int)) ∧ w'.cell? ⟨gr, 2, none⟩ = some (.int .u64 (e : Int)) ∧ Below w.heap.size w w')
    (((try dsimp only); (try go_split_ands); (repeat' apply And.intro) <;> first | (go_keep; done) | exact below_drew (Below.refl _ _) | (refine pw_cell_below hb ?_; assumption) | (refine below_then ?_ ?_ hb; assumption; exact Below.size (by assumption))))
    ((go_at_call 115; have hB0 := Aside0.mk (show Below w.heap.size w _ by go_split_ands; assumption); refine (compact_getMergePath.calls (b : Int) (e : Int) (x : Int) (low : Int) (hgh : Int) _ (Glob.below HG.out (below_sz' HR.out.below ((Below.mono hB0.out HR.out.below.size)))) HMP.out).mono ?_; rintro en w1 ⟨rfl, hd⟩; have hb := hd.below))
  go_split_ands
  have hB1 : Below w.heap.size w w1 := by assumption
  have HR1 := Aside0.mk (HR.out.step hB1)
  have HS1 := Aside0.mk (HS.out.below hB1)
  have HLR1 := Aside0.mk (HLR.out.step (Grows.refl _ _) (KeptS.below hB1))
  have t3 : decide ((m.length : Int) < 0) = false := decide_eq_false (by omega)
  have k0 : w1.cell? ⟨gr, 0, none⟩ = some (.pointer (some ⟨gf, 0, none⟩)) := (blk_cell HR1.out.obj 0).trans rfl
  have k2 : w1.cell? ⟨gr, 2, none⟩ = some (.int .u64 (e : Int)) := (blk_cell HR1.out.obj 2).trans rfl
  have k3 : w1.cell? ⟨gr, 3, none⟩ = some (.slice A l.length c) := (blk_cell HR1.out.obj 3).trans rfl
  have t2 : decide ((l.length : Int) < 0) = false := decide_eq_false (by omega)
  go_wp2_with (first
    | (go_at_call 113; (with_reducible refine (bits_OnesCount64.calls _ _ _ HON.out).mono ?_); rintro en w2 ⟨rfl, hd⟩; have HR2 := Aside0.mk (HR1.out.step hd.below); have HS2 := Aside0.mk (HS1.out.below hd.below); have HLR2 := Aside0.mk (HLR1.out.step (Grows.refl _ _) (KeptS.below hd.below)); have HK2 := Aside0.mk (below_then hB1 hB1.size hd.below); have k0 := pw_cell_below hd.below k0; have k2 := pw_cell_below hd.below k2; have k3 := pw_cell_below hd.below k3; clear hd))
  (try simp only [Act.put, List.setIfInBounds_toArray, List.set_cons_zero, List.set_cons_succ])
  go_loopg [2, 13, 18, 19, 20] 0 (fun kq v2 v13 v18 v19 v20 wr => v2 = .slice As s.length cs ∧ v13 = .int .u64 ((e : Int) / 2 ^ low) ∧ v18 = .int .i64 (l.length : Int) ∧ v19 = .int .i64 0 ∧ v20 = .int .u64 (low : Int) ∧ Aside0 (RSt a0 a1 a2 a3 a4 a5 w0 gr gf gs S wr (b : Int) (e : Int) (.slice A l.length c) vs l n0) ∧ Aside0 (Safe S wr As s) ∧ Aside0 (KeptS S w wr) ∧ Aside0 (LRow S wr Am m))
  case atStart => exact ⟨rfl, rfl, rfl, rfl, rfl, HR2, HS2, ⟨KeptS.below HK2.out⟩, HLR2⟩
  case round =>
    clear k0 k1 k2 k3 HR2 HS2 HK2 HR1 HS1 HR HS HLR2 HLR1 HLR t1 t1n t2 t3
    obtain ⟨rfl, rfl, rfl, rfl, rfl, HR, HS, HKp, HLR⟩ := hrel
    rename World => wr
    have HSC := Aside0.mk hsc
    go_wp2
    obtain ⟨iL, hiL, hsL⟩ := Option.map_eq_some_iff.1 infoL
    have hcut1 : ∀ W : World, (Instr.slice 25 (.slice A l.length c) none (some (.int .i64 (l.length : Int))) none).run Tryd.prog W = .ok (.slice A l.length c) W := fun W => by
      have h := cut_to (P := Tryd.prog) 25 28 .i64 Tryd.underlying25 hiL A l.length c (l.length : Int) (by omega) (by omega) hlc W
      rw [Int.toNat_natCast] at h
      exact h
    have hAm : (if cm = 0 then Am else Am.map (·.add (0 * 1))) = Am := by
      split
      · rfl
      · cases Am with
        | none => rfl
        | some ad => exact congrArg some (Addr.add_zero' ad)
    clear hiL hsL
    have HRz := Aside0.mk (HR.out.step (below_drew (Below.refl wr.heap.size wr)))
    have HSz := Aside0.mk (HS.out.below (below_drew (Below.refl wr.heap.size wr)))
    have HKz := Aside0.mk (HKp.out.trans (Grows.refl _ _) (KeptS.below (S := S) (below_drew (Below.refl wr.heap.size wr))))
    have HLz := Aside0.mk (HLR.out.step (Grows.refl _ _) (KeptS.below (S := S) (below_drew (Below.refl wr.heap.size wr))))
    refine start_ (n := 17) (S := fun w' => w'.cell? ⟨gr, 3, none⟩ = some (.slice A l.length c)) (ds := [16]) #[false, false, false, false, false, false, false, false, false, false, false, false, false, false, false, false, false] (by kernel_rfl) rfl rfl ((blk_cell HRz.out.obj 3).trans rfl) (fun hHeld => ?_)
    generalize wr.drew = wz at HRz HSz HKz HLz hHeld ⊢
    clear HR HS HKp HLR
    refine pure_ (i := 0) (N := some 131) (v := ?_) (a' := ?_) #[true, false, false, false, false, false, false, false, false, false, false, false, false, false, false, false, false] rfl rfl (by kernel_rfl) (fun _ _ _ h => h) (Or.inl ⟨by rfl, ?_⟩) ?_ ?_
    rotate_left
    · intro w'
      go_simp
      with_reducible rfl
    rotate_left
    · simp only [Act.put, List.setIfInBounds_toArray, List.set_cons_zero, List.set_cons_succ]
      rfl
    refine pure_ (i := 1) (N := some 132) (v := ?_) (a' := ?_) #[true, true, false, false, false, false, false, false, false, false, false, false, false, false, false, false, false] rfl rfl (by kernel_rfl) (fun _ _ _ h => h) (Or.inl ⟨by rfl, ?_⟩) ?_ ?_
    rotate_left
    · intro w'
      go_simp
      with_reducible rfl
    rotate_left
    · simp only [Act.put, List.setIfInBounds_toArray, List.set_cons_zero, List.set_cons_succ]
      rfl
    refine pure_ (i := 2) (N := some 133) (v := ?_) (a' := ?_) #[true, true, true, false, false, false, false, false, false, false, false, false, false, false, false, false, false] rfl rfl (by kernel_rfl) (fun _ _ _ h => h) (Or.inl ⟨by rfl, ?_⟩) ?_ ?_
    rotate_left
    · intro w'
      go_simp
      with_reducible rfl
    rotate_left
    · simp only [Act.put, List.setIfInBounds_toArray, List.set_cons_zero, List.set_cons_succ]
      rfl
    refine pure_ (i := 3) (N := some 134) (v := ?_) (a' := ?_) #[true, true, true, true, false, false, false, false, false, false, false, false, false, false, false, false, false] rfl rfl (by kernel_rfl) (fun _ _ _ h => h) (Or.inl ⟨by rfl, ?_⟩) ?_ ?_
    rotate_left
    · intro w'
      go_simp
      with_reducible rfl
    rotate_left
    · simp only [Act.put, List.setIfInBounds_toArray, List.set_cons_zero, List.set_cons_succ]
      rfl
    refine take_ (i := 4) (N := some 135) (v := ?_) (a' := ?_) #[true, true, true, true, true, false, false, false, false, false, false, false, false, false, false, false, false] rfl rfl (by kernel_rfl) (fun _ _ _ h => h) (Or.inl ⟨by rfl, ?_⟩) hHeld ?_ ?_
    rotate_left
    · intro w' s0
      go_simp
      with_reducible rfl
    rotate_left
    · simp only [Act.put, List.setIfInBounds_toArray, List.set_cons_zero, List.set_cons_succ]
      rfl
    refine pure_ (i := 5) (N := some 136) (v := ?_) (a' := ?_) #[true, true, true, true, true, true, false, false, false, false, false, false, false, false, false, false, false] rfl rfl (by kernel_rfl) (fun _ _ _ h => h) (Or.inl ⟨by rfl, ?_⟩) ?_ ?_
    rotate_left
    · intro w'
      go_simp
      with_reducible rfl
    rotate_left
    · simp only [Act.put, List.setIfInBounds_toArray, List.set_cons_zero, List.set_cons_succ]
      rfl
    refine pure_ (i := 6) (N := some 137) (v := ?_) (a' := ?_) #[true, true, true, true, true, true, true, false, false, false, false, false, false, false, false, false, false] rfl rfl (by kernel_rfl) (fun _ _ _ h => h) (Or.inl ⟨by rfl, ?_⟩) ?_ ?_
    rotate_left
    · intro w'
      go_simp
      with_reducible rfl
    rotate_left
    · simp only [Act.put, List.setIfInBounds_toArray, List.set_cons_zero, List.set_cons_succ]
      rfl
    refine pure_ (i := 7) (N := some 138) (v := ?_) (a' := ?_) #[true, true, true, true, true, true, true, true, false, false, false, false, false, false, false, false, false] rfl rfl (by kernel_rfl) (fun _ _ _ h => h) (Or.inl ⟨by rfl, ?_⟩) ?_ ?_
    rotate_left
    · intro w'
      go_simp
      with_reducible rfl
    rotate_left
    · simp only [Act.put, List.setIfInBounds_toArray, List.set_cons_zero, List.set_cons_succ]
      rfl
    refine pure_ (i := 10) (N := some 141) (v := ?_) (a' := ?_) #[true, true, true, true, true, true, true, true, false, false, true, false, false, false, false, false, false] rfl rfl (by kernel_rfl) (fun _ _ _ h => h) (Or.inl ⟨by rfl, ?_⟩) ?_ ?_
    rotate_left
    · intro w'
      go_simp
      with_reducible rfl
    rotate_left
    · simp only [Act.put, List.setIfInBounds_toArray, List.set_cons_zero, List.set_cons_succ]
      rfl
    refine pure_ (i := 11) (N := some 142) (v := ?_) (a' := ?_) #[true, true, true, true, true, true, true, true, false, false, true, true, false, false, false, false, false] rfl rfl (by kernel_rfl) (fun _ _ _ h => h) (Or.inl ⟨by rfl, ?_⟩) ?_ ?_
    rotate_left
    · intro w'
      go_simp
      with_reducible rfl
    rotate_left
    · simp only [Act.put, List.setIfInBounds_toArray, List.set_cons_zero, List.set_cons_succ]
      rfl
    refine pure_ (i := 12) (N := some 143) (v := ?_) (a' := ?_) #[true, true, true, true, true, true, true, true, false, false, true, true, true, false, false, false, false] rfl rfl (by kernel_rfl) (fun _ _ _ h => h) (Or.inl ⟨by rfl, ?_⟩) ?_ ?_
    rotate_left
    · intro w'
      go_simp
      with_reducible rfl
    rotate_left
    · simp only [Act.put, List.setIfInBounds_toArray, List.set_cons_zero, List.set_cons_succ]
      rfl
    refine one_ (i := 8) (N := some 139) #[true, true, true, true, true, true, true, true, true, false, true, true, true, false, false, false, false] rfl rfl (by kernel_rfl) (by decide) (fun K hK => ?_)
    refine event_step rfl (v := .slice (some ⟨_, 0, none⟩) 1 1) (w1 := World.alloc _ (.cells #[.slice As s.length cs] 28)) (by first | (go_simp; done) | (go_simp; rfl) | (go_simp; exact ⟨rfl, rfl⟩)) ?_
    refine hK.out _ _ ((blk_cell (blk_below HRz.out.obj (below_alloc (Below.refl _ _) _)) 3).trans rfl) (fun hHeld => ?_)
    clear hK K
    refine norm_ (a' := ?_) ?_ ?_
    rotate_left
    · show Act.put _ (some 139) _ = _
      simp only [Act.put, List.setIfInBounds_toArray, List.set_cons_zero, List.set_cons_succ]
      rfl
    refine one_ (i := 9) (N := some 140) #[true, true, true, true, true, true, true, true, true, true, true, true, true, false, false, false, false] rfl rfl (by kernel_rfl) (by decide) (fun K hK => ?_)
    refine Kd.R_append_step (kG S wz) (w0 := w0) w0.heap.size rfl (.tmp 137) (.tmp 139) 25 28 (.slice none 0 0) 24 rfl Tryd.underlying25 infoL rfl Nat.zero_lt_one (by omega) (.slice A l.length c) l s [.slice As s.length cs] (fun _ => True) (fun _ => False) rfl rfl ⟨As, cs, rfl, HSC.out, HSz.out⟩ (fun _ h => h.elim) (fun _ _ => trivial) HRz.out.rows.row HRz.out.below HRz.out.below.size (by omega) ?_
    intro v1 w1 hR1 hB1 hG1 hA1
    have eqo : (Value.slice A l.length c).ownBlock = (Value.slice A l.length c).ownBlock := by cases A <;> rfl
    rw [eqo] at hG1 hA1
    have hz0 := lt_of_block HRz.out.obj
    have hne3 : some gr ≠ (Value.slice A l.length c).ownBlock := fun he => (HRz.out.rown gr he.symm).2.2 rfl
    have hobj1 := (hG1.block gr hz0 hne3).trans HRz.out.obj
    refine hK.out _ _ ((blk_cell hobj1 3).trans rfl) (fun hHeld => ?_)
    clear hK K
    refine norm_ (a' := ?_) ?_ ?_
    rotate_left
    · show Act.put _ (some 140) _ = _
      simp only [Act.put, List.setIfInBounds_toArray, List.set_cons_zero, List.set_cons_succ]
      rfl
    refine one_ (i := 13) (N := some 144) #[true, true, true, true, true, true, true, true, true, true, true, true, true, true, false, false, false] rfl rfl (by kernel_rfl) (by decide) (fun K hK => ?_)
    have hrd := lreads (w1 := w1) HLz.out 0 cm (Nat.zero_le _) HMC.out (by have := HML.out; omega) (fun ad _ hn hlt => hG1.block ad.block hlt (fun he => hn (HRz.out.rows.own _ he.symm)))
    rw [hAm, List.drop_zero, Nat.sub_zero] at hrd
    refine Kd.R_append_rows_step (kG S wz) (Rr := fun (x : List Int) cs => ∃ A' c', cs = [.slice A' x.length c'] ∧ x.length ≤ c' ∧ Safe S wz A' x) (w0 := w0) w0.heap.size rfl (.tmp 140) (.tmp 143) 25 28 (.slice none 0 0) 24 rfl Tryd.underlying25 infoL rfl Nat.zero_lt_one (by omega) v1 (l ++ [s]) m Am m.length cm (fun _ => True) (fun _ => False) rfl rfl hR1 hrd (fun _ _ h => h) (fun _ h => h.elim) (fun _ _ => trivial) hB1 (hB1.size) (by rw [List.length_append, List.length_singleton]; have := HML.out; have := HLL.out; omega) ?_
    intro v2 w2' hR2 hB2 hG2 hA2
    have hsz1 : wz.heap.size ≤ w1.heap.size := hG1.size
    have hsz2 : w1.heap.size ≤ w2'.heap.size := hG2.size
    have own1 : ∀ q, q < wz.heap.size → some q ≠ (Value.slice A l.length c).ownBlock → some q ≠ v1.ownBlock := fun q hq hne he => by
      rcases hA1 with h1 | ⟨b1, h1, h2⟩
      · exact hne (he.trans h1)
      · rw [h1] at he
        injection he with he
        omega
    have hG12 : ∀ q, q < wz.heap.size → some q ≠ (Value.slice A l.length c).ownBlock → w2'.heap[q]? = wz.heap[q]? := fun q hq hne => (hG2.block q (by omega) (own1 q hq hne)).trans (hG1.block q hq hne)
    have hA12 : v2.ownBlock = (Value.slice A l.length c).ownBlock ∨ ∃ q, v2.ownBlock = some q ∧ wz.heap.size ≤ q := by
      rcases hA2 with h1 | ⟨b1, h1, h2⟩
      · rcases hA1 with h3 | ⟨b3, h3, h4⟩
        · exact .inl (h1.trans h3)
        · exact .inr ⟨b3, h1.trans h3, h4⟩
      · exact .inr ⟨b1, h1, by omega⟩
    have hobj2 := (hG12 gr hz0 hne3).trans HRz.out.obj
    obtain ⟨hP1, hP2, hP3⟩ := HRz.out.put hR2 hG12 (Nat.le_trans hsz1 hsz2) hB2 hA12 (x : Int)
    obtain ⟨Av, cv, rfl⟩ := Kd.R_slice hR2
    refine hK.out _ _ ((blk_cell hobj2 3).trans rfl) (fun hHeld => ?_)
    clear hK K
    refine norm_ (a' := ?_) ?_ ?_
    rotate_left
    · show Act.put _ (some 144) _ = _
      simp only [Act.put, List.setIfInBounds_toArray, List.set_cons_zero, List.set_cons_succ]
      rfl
    refine pure_ (i := 14) (N := some 145) (v := ?_) (a' := ?_) #[true, true, true, true, true, true, true, true, true, true, true, true, true, true, true, false, false] rfl rfl (by kernel_rfl) (fun _ _ _ h => h) (Or.inl ⟨by rfl, ?_⟩) ?_ ?_
    rotate_left
    · intro w'
      go_simp
      with_reducible rfl
    rotate_left
    · simp only [Act.put, List.setIfInBounds_toArray, List.set_cons_zero, List.set_cons_succ]
      rfl
    refine pure_ (i := 15) (N := some 146) (v := ?_) (a' := ?_) #[true, true, true, true, true, true, true, true, true, true, true, true, true, true, true, true, false] rfl rfl (by kernel_rfl) (fun _ _ _ h => h) (Or.inl ⟨by rfl, ?_⟩) ?_ ?_
    rotate_left
    · intro w'
      go_simp
      with_reducible rfl
    rotate_left
    · simp only [Act.put, List.setIfInBounds_toArray, List.set_cons_zero, List.set_cons_succ]
      rfl
    have hc3 : w2'.cell? ⟨gr, 3, none⟩ = some (.slice A l.length c) := (blk_cell hobj2 3).trans rfl
    have hf3 : w2'.frozen? ⟨gr, 3, none⟩ = false := blk_frozen hobj2 3
    clear hHeld
    refine last_ (i := 16) (N := none) #[true, true, true, true, true, true, true, true, true, true, true, true, true, true, true, true, true] rfl rfl (by kernel_rfl) (by simp) (fun K hK => ?_)
    refine store_step rfl (w1 := w2'.setCell ⟨gr, 3, none⟩ (.slice Av (l ++ [s] ++ m).length cv)) (by first | (go_simp; done) | (go_simp; rfl) | (go_simp; exact ⟨rfl, rfl⟩)) ?_
    refine hK.out _ _ ?_
    clear hK K
    refine norm_ (a' := ?_) ?_ ?_
    rotate_left
    · show Act.put _ none _ = _
      first | rfl | (simp only [Act.put]; rfl) | simp only [Act.put]
    refine done_ (by kernel_rfl) ?_
    have hobj3 := blk_set hobj2 3 (.slice Av (l ++ [s] ++ m).length cv)
    have hc2 : (w2'.setCell ⟨gr, 3, none⟩ (.slice Av (l ++ [s] ++ m).length cv)).cell? ⟨gr, 2, none⟩ = some (.int .u64 (e : Int)) := (blk_cell hobj3 2).trans (by simp)
    have hf2 : (w2'.setCell ⟨gr, 3, none⟩ (.slice Av (l ++ [s] ++ m).length cv)).frozen? ⟨gr, 2, none⟩ = false := blk_frozen hobj3 2
    generalize (w2'.setCell ⟨gr, 3, none⟩ (.slice Av (l ++ [s] ++ m).length cv)) = w9 at hP1 hP3 hc2 hf2 ⊢
    have HP1 := Aside0.mk hP1
    have HP3 := Aside0.mk hP3
    have HP2 := Aside0.mk hP2
    clear hP1 hP2 hP3 hobj1 hobj2 hobj3 hc3 hf3 hG12 hA12 hG1 hA1 hB1 hR1 hG2 hA2 hB2 hR2 own1 hne3 eqo hrd hAm
    go_wp2
    go_ret
    have hGw : Grows S _ w := ⟨HP2.out.1, fun i hi => (HP2.out.2 i hi).imp id fun h => Nat.le_trans HKz.out.size h⟩
    exact ⟨_, _, _, rfl, HP1.out, hGw, HKz.out.trans hGw HP3.out⟩
end Go.Proofs.YtfhcpniibiobgaaDoor.Qf
