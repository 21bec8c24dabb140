-- Written by wip/tools/myprint.py for this seat (the kit's print with changes); Lean checks it.
import Derived.Test.YtfhcpniibiobgaaDoorQfx0
namespace Go.Proofs.YtfhcpniibiobgaaDoor.Qf
open Go.RowKit Go.Proofs.YtfhcpniibiobgaaDoorW.PrintWords Go.Proofs.YtfhcpniibiobgaaDoorW.PrintLast Go.Proofs.YtfhcpniibiobgaaDoorW.PrintMore
attribute [local go_sem] max2_int min2_int max_two min_two max_three min_three max_four min_four
set_option linter.unusedVariables false
set_option linter.unusedSimpArgs false
def proof_reverse.l0 : Nat → List (S108) → Int → Int → Option ((List (S108)))
  | 0, _, _, _ => none
  | k + 1, x0, x2, x3 => if x2 < x3 then (if 0 ≤ x3 then (if x3 < (x0.length : Int) then (if 0 ≤ x2 then (if x2 < (x0.length : Int) then (proof_reverse.l0 k ((x0.set (x2 : Int).toNat (⟨(rd_T108 x0 x3).f0, (rd_T108 x0 x3).f1⟩ : S108)).set (x3 : Int).toNat (⟨(rd_T108 x0 x2).f0, (rd_T108 x0 x2).f1⟩ : S108)) (wrap64 (x2 + 1)) (wrap64 (x3 - 1))) else (none)) else (none)) else (none)) else (none)) else (some x0)
def proof_reverse.f (k : Nat) (l0 : List (S108)) : Option ((List (S108))) := proof_reverse.l0 k l0 0 (wrap64 ((l0.length : Int) - 1))
def proof_reverse.T3 : Bool × List (List Nat × List Nat) := (true, [([], []), ([], []), ([], []), ([], []), ([], []), ([], []), ([4, 5], [4, 5]), ([6], [6]), ([], []), ([], []), ([8, 9], [8, 9]), ([10], [10]), ([0, 1, 0, 1, 4, 5, 6, 7, 11], [0, 1]), ([12, 7, 0, 1, 4, 5, 6, 7, 11], [7, 12]), ([2, 3, 0, 1, 2, 3, 4, 5, 6, 7, 8, 9, 10, 11, 12, 13], [2, 3]), ([14, 11, 13, 0, 1, 2, 3, 4, 5, 6, 7, 8, 9, 10, 11, 12, 13], [11, 14])])
def proof_reverse.B3 : List Nat := [0, 0, 0, 0, 0, 0, 48, 112, 0, 0, 768, 1792, 4083, 8179, 16383, 32767]
theorem proof_reverse.tab3 : rtab .any (opsOf Tryd.f119 3) = proof_reverse.T3 := by kernel_rfl
theorem proof_reverse.bits3 : waitsOk proof_reverse.T3.2 proof_reverse.B3 = true := by kernel_rfl
theorem getD_tail (pre xs : List S108) (i : Int) (h0 : 0 ≤ i) : (pre ++ xs).getD ((pre.length : Int) + i).toNat z108 = rd_T108 xs i := by
  unfold rd_T108
  rw [List.getD_eq_getElem?_getD, List.getElem?_append_right (by omega), show ((pre.length : Int) + i).toNat - pre.length = i.toNat by omega, List.getD_eq_getElem?_getD]
theorem tail_elem {W : World} {base g n c : Nat} {ok : Nat → Prop} {pre xs : List S108} (h : Kd.R k108 108 W base ok (.slice (some ⟨g, 0, none⟩) n c) (pre ++ xs)) (i : Int) (h0 : 0 ≤ i) (h1 : i < xs.length) :
    (W.cell? ⟨g, pre.length * 2 + i.toNat * 2, none⟩ = some (.int .u64 (rd_T108 xs i).f0) ∧ W.cell? ⟨g, pre.length * 2 + i.toNat * 2 + 1, none⟩ = some (.int .u64 (rd_T108 xs i).f1)) ∧
      W.frozen? ⟨g, pre.length * 2 + i.toNat * 2, none⟩ = false ∧ W.frozen? ⟨g, pre.length * 2 + i.toNat * 2 + 1, none⟩ = false := by
  have hn := (Kd.R_reads' h).1
  rw [List.length_append] at hn
  obtain ⟨ce, hcl, hM, hcc, hfr⟩ := Kd.R_elem h z108 ((pre.length : Int) + i) (by omega) (by omega)
  rw [getD_tail pre xs i h0] at hM
  obtain rfl := k108_openM hM
  have e : ((pre.length : Int) + i).toNat * 2 = pre.length * 2 + i.toNat * 2 := by omega
  have a0 := hcc 0 _ rfl
  have a1 := hcc 1 _ rfl
  have b0 := hfr 0
  have b1 := hfr 1
  change W.cell? ⟨g, ((pre.length : Int) + i).toNat * 2 + 0, none⟩ = _ at a0
  change W.cell? ⟨g, ((pre.length : Int) + i).toNat * 2 + 1, none⟩ = _ at a1
  change W.frozen? ⟨g, ((pre.length : Int) + i).toNat * 2 + 0, none⟩ = _ at b0
  change W.frozen? ⟨g, ((pre.length : Int) + i).toNat * 2 + 1, none⟩ = _ at b1
  rw [e] at a0 a1 b0 b1
  exact ⟨⟨a0, a1⟩, b0, b1⟩
theorem tail_seg {W : World} {base g n c : Nat} {ok : Nat → Prop} {pre xs : List S108} (h : Kd.R k108 108 W base ok (.slice (some ⟨g, 0, none⟩) n c) (pre ++ xs)) (i : Int) (h0 : 0 ≤ i) (h1 : i < xs.length) (x : S108) :
    Kd.R k108 108 (W.setCells g (pre.length * 2 + i.toNat * 2) [.int .u64 x.f0, .int .u64 x.f1]) base ok (.slice (some ⟨g, 0, none⟩) n c) (pre ++ xs.set i.toNat x) := by
  have hn := (Kd.R_reads' h).1
  rw [List.length_append] at hn
  obtain ⟨ce, hcl, hM, hcc, hfr⟩ := Kd.R_elem h z108 ((pre.length : Int) + i) (by omega) (by omega)
  obtain rfl := k108_openM hM
  have hs := (Kd.R_seg h ((pre.length : Int) + i) (by omega) (by omega) (seg := [.int .u64 x.f0, .int .u64 x.f1]) (j := 0) hcl hcc (show 2 ≤ 2 from by decide) (x' := x) (k108_mkM _ _ _ x) (fun _ hk => hk)).1
  have e : ((pre.length : Int) + i).toNat * 2 = pre.length * 2 + i.toNat * 2 := by omega
  have e2 : (pre ++ xs).set ((pre.length : Int) + i).toNat x = pre ++ xs.set i.toNat x := by
    rw [List.set_append_right _ _ (by omega), show ((pre.length : Int) + i).toNat - pre.length = i.toNat by omega]
  rw [e2] at hs
  change Kd.R k108 108 (W.setCells g (((pre.length : Int) + i).toNat * 2 + 0) _) _ _ _ _ at hs
  rw [e] at hs
  exact hs
set_option maxHeartbeats 8000000 in
set_option maxRecDepth 100000 in
theorem proof_reverse.tail (k : Nat) (P0_ : Nat → Prop) (g n c cc o : Nat) (pre l0 : List (S108)) (r : List (S108)) (w0 w : World) (ho_ : o = pre.length * 2) (hB : Below w0.heap.size w0 w) (ho0 : Kd.R k108 108 w w0.heap.size P0_ (.slice (some ⟨g, 0, none⟩) n c) (pre ++ l0)) (h : proof_reverse.f k l0 = some r) :
    Calls Tryd.prog 119 #[.slice (some ⟨g, o, none⟩) l0.length cc] w fun e w' => e = .returned (.tuple #[]) ∧ Kd.R k108 108 w' w0.heap.size (fun k_ => (P0_ k_ ∨ w.heap.size ≤ k_)) (.slice (some ⟨g, 0, none⟩) n c) (pre ++ r) ∧ Below w0.heap.size w0 w' ∧ Kept w w' (fun k_ => P0_ k_) := by
  have ho := aq ho_
  clear ho_
  have hu108 := Tryd.underlying108
  have HO0 := aq (show Kd.R k108 108 w w0.heap.size (fun k_ => (P0_ k_ ∨ w.heap.size ≤ k_)) (.slice (some ⟨g, 0, none⟩) n c) (pre ++ l0) from Kd.R_mono ho0 (fun k_ hk => (.inl hk)))
  have HN0 := aq (Kd.R_reads' ho0).1
  clear ho0
  have HK := aq (Kept.refl w (fun k_ => P0_ k_))
  have HW0 := aq hB.size
  have HB := aq hB
  clear hB
  have H : (proof_reverse.l0 k l0 0 (wrap64 ((l0.length : Int) - 1))) = some r := h
  clear h
  have H' := aq H
  clear H
  go_enter Tryd.func119, Tryd.ntmps119
  go_wp2
  (try simp only [Act.put, List.setIfInBounds_toArray, List.set_cons_zero, List.set_cons_succ])
  go_loopg [2, 3] k (fun kq v2 v3 w' => ∃ (x0_1 : List (S108)) (x2_1 : Int) (x3_1 : Int), v2 = .int .i64 x2_1 ∧ v3 = .int .i64 x3_1 ∧ Aside0 (proof_reverse.l0 kq x0_1 x2_1 x3_1 = some r) ∧ Aside0 (kq ≤ k) ∧ Aside0 (Kd.R k108 108 w' w0.heap.size (fun k_ => (P0_ k_ ∨ w.heap.size ≤ k_)) (.slice (some ⟨g, 0, none⟩) n c) (pre ++ x0_1)) ∧ Aside0 (Kept w w' (fun k_ => P0_ k_)) ∧ Aside0 (Below w0.heap.size w0 w'))
  case atStart => exact ⟨(l0), (0), (wrap64 ((l0.length : Int) - 1)), (by first | rfl | (simp; done) | (simp [*]; done)), (by first | rfl | (simp; done) | (simp [*]; done)), H', ⟨Nat.le_refl _⟩, ⟨by (with_reducible repeat (first | apply Kd.R_alloc | apply Kd.R_drewN | apply Kd.R_drew)); exact HO0.out⟩, ⟨by repeat (first | (with_reducible first | exact HK.out | apply Kept.alloc | apply Kept.drewN | apply Kept.drew) | exact HK.out)⟩, ⟨by repeat (first | (with_reducible first | exact HB.out | apply below_alloc | apply pw_below_drewN | apply below_drew1) | exact HB.out)⟩⟩
  case round =>
    clear H'
    try clear c1
    try clear p2
    obtain ⟨x0_1, x2_1, x3_1, rfl, rfl, HA, HK1, HO_0, HK, HB⟩ := hrel
    have hl0_1 : l0.length = x0_1.length := by
      have e_ := (Kd.R_reads' HO_0.out).1
      have n_ := HN0.out
      rw [List.length_append] at e_ n_
      omega
    (try simp only [hl0_1])
    cases gk with
    | zero => exact absurd HA.out (by simp [proof_reverse.l0])
    | succ k1 =>
      have H := HA.out
      clear HA
      simp only [proof_reverse.l0] at H
      by_cases c3 : x2_1 < x3_1
      · rw [if_pos c3] at H
        have c3b0 : decide (x2_1 < x3_1) = true := decide_eq_true c3
        by_cases c4 : 0 ≤ x3_1
        · rw [if_pos c4] at H
          have c4b0 : decide (0 ≤ x3_1) = true := decide_eq_true c4
          clear c4
          by_cases c5 : x3_1 < (x0_1.length : Int)
          · rw [if_pos c5] at H
            have c5b0 : decide (x3_1 < (x0_1.length : Int)) = true := decide_eq_true c5
            by_cases c6 : 0 ≤ x2_1
            · rw [if_pos c6] at H
              have c6b0 : decide (0 ≤ x2_1) = true := decide_eq_true c6
              by_cases c7 : x2_1 < (x0_1.length : Int)
              · rw [if_pos c7] at H
                have c7b0 : decide (x2_1 < (x0_1.length : Int)) = true := decide_eq_true c7
                clear c7
                obtain ⟨y203, hy203⟩ : ∃ y_ : List (S108), y_ = (x0_1.set (x2_1 : Int).toNat (⟨(rd_T108 x0_1 x3_1).f0, (rd_T108 x0_1 x3_1).f1⟩ : S108)) := ⟨_, rfl⟩
                replace H : (proof_reverse.l0 k1 (y203.set (x3_1 : Int).toNat (⟨(rd_T108 x0_1 x2_1).f0, (rd_T108 x0_1 x2_1).f1⟩ : S108)) (wrap64 (x2_1 + 1)) (wrap64 (x3_1 - 1))) = some r := by first | (rw [hy203]; with_reducible exact H) | (have H2_ := (Option.bind_some _ _).symm.trans H; rw [hy203]; with_reducible exact H2_) | (have H2_ := (Option.bind_some _ _).symm.trans H; with_reducible exact H2_) | with_reducible exact H | (rw [hy203]; exact H) | exact H
                have Ny203 := aq hy203
                clear hy203
                obtain ⟨y204, hy204⟩ : ∃ y_ : List (S108), y_ = (y203.set (x3_1 : Int).toNat (⟨(rd_T108 x0_1 x2_1).f0, (rd_T108 x0_1 x2_1).f1⟩ : S108)) := ⟨_, rfl⟩
                replace H : (proof_reverse.l0 k1 y204 (wrap64 (x2_1 + 1)) (wrap64 (x3_1 - 1))) = some r := by first | (rw [hy204]; with_reducible exact H) | (have H2_ := (Option.bind_some _ _).symm.trans H; rw [hy204]; with_reducible exact H2_) | (have H2_ := (Option.bind_some _ _).symm.trans H; with_reducible exact H2_) | with_reducible exact H | (rw [hy204]; exact H) | exact H
                have Ny204 := aq hy204
                clear hy204
                have H' := aq H
                clear H
                try go_wp2
                replace HO_0 := aq (Kd.R_drew HO_0.out)
                replace HK := aq (Kept.drew HK.out)
                replace HB := aq (below_drew1 HB.out)
                have p201 : 0 ≤ (x3_1 : Int) := of_decide_eq_true (by first | (with_reducible assumption) | assumption)
                have q201 : x3_1 < (x0_1.length : Int) := of_decide_eq_true (by first | (with_reducible assumption) | assumption)
                replace p201 := eq_true p201
                replace q201 := eq_true q201
                have p202 : 0 ≤ (x2_1 : Int) := of_decide_eq_true (by first | (with_reducible assumption) | assumption)
                have q202 : x2_1 < (x0_1.length : Int) := of_decide_eq_true (by first | (with_reducible assumption) | assumption)
                obtain ⟨go8_, co8, eo8, gb8, gl8, cl8, HG8⟩ := Kd.R_form HO_0.out (by rw [List.length_append]; omega)
                have ego : go8_ = g := by injection eo8 with ea_ en_ ec_; injection ea_ with ea_; injection ea_ with ea_; exact ea_.symm
                rw [ego] at gb8 gl8 HG8
                clear eo8 ego
                have GB8 := aq gb8
                have GG8 := aq HG8
                clear gb8 gl8 HG8
                have HMgo8 := aq (show (P0_ g ∨ w.heap.size ≤ g) from (HO_0.out.1 _ rfl))
                obtain ⟨⟨hx201_0, hx201_1⟩, hf9b_0, hf9b_1⟩ := tail_elem HO_0.out x3_1 (by omega) (by omega)
                obtain ⟨⟨hx202_0, hx202_1⟩, hf8_0, hf8_1⟩ := tail_elem HO_0.out x2_1 (by omega) (by omega)
                have hx8_0 := hx202_0
                have hx8_1 := hx202_1
                have HQ11 := aq (tail_seg HO_0.out x2_1 (by omega) (by omega) (⟨(rd_T108 x0_1 x3_1).f0, (rd_T108 x0_1 x3_1).f1⟩ : S108))
                rw [← Ny203.out] at HQ11
                have hy203l : y203.length = x0_1.length := by rw [Ny203.out, List.length_set]
                obtain ⟨⟨hx9_0, hx9_1⟩, hf9_0, hf9_1⟩ := tail_elem HQ11.out x3_1 (by omega) (by omega)
                have HQ12 := aq (tail_seg HQ11.out x3_1 (by omega) (by omega) (⟨(rd_T108 x0_1 x2_1).f0, (rd_T108 x0_1 x2_1).f1⟩ : S108))
                rw [← Ny204.out] at HQ12
                rw [← ho.out] at HQ11 HQ12 hf8_0 hf8_1 hf9_0 hf9_1 hf9b_0 hf9b_1 hx201_0 hx201_1 hx202_0 hx202_1 hx8_0 hx8_1 hx9_0 hx9_1
                replace p202 := eq_true p202
                replace q202 := eq_true q202
                refine start_ (n := 16) (S := fun w' => w'.cell? ⟨g, o + (x3_1).toNat * 2, none⟩ = some (.int .u64 ((rd_T108 x0_1 x3_1).f0)) ∧ w'.cell? ⟨g, o + (x3_1).toNat * 2 + 1, none⟩ = some (.int .u64 ((rd_T108 x0_1 x3_1).f1)) ∧ w'.cell? ⟨g, o + (x2_1).toNat * 2, none⟩ = some (.int .u64 ((rd_T108 x0_1 x2_1).f0)) ∧ w'.cell? ⟨g, o + (x2_1).toNat * 2 + 1, none⟩ = some (.int .u64 ((rd_T108 x0_1 x2_1).f1))) (ds := [13, 15]) #[false, false, false, false, false, false, false, false, false, false, false, false, false, false, false, false] (by kernel_rfl) rfl rfl ⟨hx201_0, hx201_1, hx202_0, hx202_1⟩ (fun hHeld => ?_); refine with_tabW proof_reverse.tab3 proof_reverse.bits3 (fun HT_ HW_ => ?_)
                generalize wr.drew = w10 at HO_0 HK HB GG8 HQ11 HQ12 hf8_0 hf8_1 hf9_0 hf9_1 hf9b_0 hf9b_1 hx201_0 hx201_1 hx202_0 hx202_1 hx8_0 hx8_1 hx9_0 hx9_1 hHeld ⊢
                refine pv 0 14 HT_ ?_
                refine pv 1 15 HT_ ?_
                refine pv 2 16 HT_ ?_
                refine pv 3 17 HT_ ?_
                refine pv 4 18 HT_ ?_
                refine pv 5 19 HT_ ?_
                refine pv 6 20 HT_ ?_
                refine pv 8 22 HT_ ?_
                refine pv 9 23 HT_ ?_
                refine pv 10 24 HT_ ?_
                refine tv 7 21 HT_ HW_ hHeld ?_
                refine tv 11 25 HT_ HW_ hHeld ?_
                refine pv 12 26 HT_ ?_
                refine last_ (i := 13) (N := none) #[true, true, true, true, true, true, true, true, true, true, true, true, true, true, false, false] rfl rfl (one_of HT_.out (by kernel_rfl)) (by decide) (fun K hK => ?_)
                refine skip_ (w1 := ?_) (by rfl) rfl ?_ ?_
                rotate_left
                · go_simp
                  rfl
                refine hK.out _ _ ?_
                clear hK K
                refine pv 14 27 HT_ ?_
                refine last_ (i := 15) (N := none) #[true, true, true, true, true, true, true, true, true, true, true, true, true, true, true, true] rfl rfl (one_of HT_.out (by kernel_rfl)) (by decide) (fun K hK => ?_)
                refine skip_ (w1 := ?_) (by rfl) rfl ?_ ?_
                rotate_left
                · go_simp
                  rfl
                refine hK.out _ _ ?_
                clear hK K
                refine done_ (done_of HT_.out (by kernel_rfl)) ?_
                try go_wp2
                (try simp only [← hl0_1])
                go_roundg k1
                case measure => have := HK1.out; omega
                case rel => exact ⟨(y204), (wrap64 (x2_1 + 1)), (wrap64 (x3_1 - 1)), (by first | rfl | (simp; done) | (simp [*]; done)), (by first | rfl | (simp; done) | (simp [*]; done)), H', ⟨by have := HK1.out; omega⟩, ⟨by (try simp only [hl0_1]); (with_reducible repeat (first | apply Kd.R_alloc | apply Kd.R_drewN | apply Kd.R_drew)); exact HQ12.out⟩, ⟨by repeat (first | (with_reducible first | exact HK.out | apply Kept.alloc | apply Kept.drewN | apply Kept.drew | refine Kept.setCell ?_ HMgo8.out _ | refine Kept.setCell ?_ HMgo8.out _ | refine Kept.setCell ?_ HMgo8.out _ | refine Kept.setCell ?_ HMgo8.out _) | exact HK.out)⟩, ⟨by repeat (first | (with_reducible first | exact HB.out | apply below_alloc | apply pw_below_drewN | apply below_drew1 | refine below_set ?_ GB8.out | refine below_set ?_ GB8.out | refine below_set ?_ GB8.out | refine below_set ?_ GB8.out) | exact HB.out)⟩⟩
              · rw [if_neg c7] at H
                exact absurd H (by simp)
            · rw [if_neg c6] at H
              exact absurd H (by simp)
          · rw [if_neg c5] at H
            exact absurd H (by simp)
        · rw [if_neg c4] at H
          exact absurd H (by simp)
      · rw [if_neg c3] at H
        have c3b0 : decide (x2_1 < x3_1) = false := decide_eq_false c3
        clear c3
        obtain rfl := Option.some.inj H
        go_wp2
        first | go_end0 | ((try simp only [Exit.inBlock, Exit.then]); refine bodyPost_ret (results_none rfl _ _ _) rfl ?_)
        exact ⟨by first | rfl | (simp [errW_none, errW_some] <;> rfl) | (simp [*, errW_none, errW_some] <;> rfl), (by first | exact (rq HO_0) | (skip; exact (rq HO_0))), by repeat (first | (with_reducible first | exact HB.out | apply below_alloc | apply pw_below_drewN | apply below_drew1) | exact HB.out), by repeat (first | (with_reducible first | exact HK.out | apply Kept.alloc | apply Kept.drewN | apply Kept.drew) | exact HK.out)⟩
def proof_revtail.f (k : Nat) (l : List (S108)) (i : Int) : Option (List (S108)) := if 0 ≤ i then (if i ≤ (l.length : Int) then (proof_reverse.f k (l.drop i.toNat)).bind fun r => some (l.take i.toNat ++ r) else none) else none
theorem proof_revtail.bounds {k : Nat} {l r : List (S108)} {i : Int} (h : proof_revtail.f k l i = some r) : 0 ≤ i ∧ i ≤ (l.length : Int) := by
  unfold proof_revtail.f at h
  split at h
  · split at h
    · exact ⟨by assumption, by assumption⟩
    · cases h
  · cases h
set_option maxHeartbeats 1000000 in
set_option maxRecDepth 100000 in
theorem proof_reverse.none_ (A : Option Addr) (c : Nat) (w : World) : Calls Tryd.prog 119 #[.slice A 0 c] w fun e w' => e = .returned (.tuple #[]) ∧ w = w' := by
  go_enter Tryd.func119, Tryd.ntmps119
  go_wp2
  (try simp only [Act.put, List.setIfInBounds_toArray, List.set_cons_zero, List.set_cons_succ])
  go_loopg [2, 3] (0 : Nat) (fun kq v2 v3 w' => v2 = .int .i64 0 ∧ v3 = .int .i64 (-1) ∧ w = w')
  case atStart => exact ⟨by first | rfl | (simp; done), by first | rfl | (simp; done) | (simp [wrap64]; done), rfl⟩
  case round =>
    obtain ⟨rfl, rfl, rfl⟩ := hrel
    go_wp2
    go_end0
    exact ⟨rfl, rfl⟩
theorem proof_revtail.calls (k : Nat) (P0_ : Nat → Prop) (Ao : Option Addr) (n c : Nat) (l : List (S108)) (i : Int) (r : List (S108)) (w0 w : World) (A : Option Addr) (hA : A = (if c = i.toNat then Ao else (Ao : Option Addr).map (·.add (i.toNat * 2)))) (hB : Below w0.heap.size w0 w) (ho0 : Kd.R k108 108 w w0.heap.size P0_ (.slice Ao n c) l) (h : proof_revtail.f k l i = some r) :
    Calls Tryd.prog 119 #[.slice A (n - i.toNat) (c - i.toNat)] w fun e w' => e = .returned (.tuple #[]) ∧ Kd.R k108 108 w' w0.heap.size (fun k_ => (P0_ k_ ∨ w.heap.size ≤ k_)) (.slice Ao n c) r ∧ Below w0.heap.size w0 w' ∧ Kept w w' (fun k_ => P0_ k_) := by
  have hn := Kd.R_reads' ho0
  have hb := proof_revtail.bounds h
  have hr : (proof_reverse.f k (l.drop i.toNat)).bind (fun r => some (l.take i.toNat ++ r)) = some r := by
    have h2 := h
    unfold proof_revtail.f at h2
    rw [if_pos hb.1, if_pos hb.2] at h2
    exact h2
  obtain ⟨q, hq, hr⟩ := Option.bind_eq_some_iff.mp hr
  obtain rfl := Option.some.inj hr
  by_cases he : i.toNat = l.length
  · have e0 : n - i.toNat = 0 := by rw [hn.1]; omega
    rw [e0]
    refine (proof_reverse.none_ A _ w).mono ?_
    rintro e w' ⟨rfl, rfl⟩
    have hd : l.drop i.toNat = [] := by rw [he]; exact List.drop_length
    have hq2 : q = [] := by
      rw [hd] at hq
      unfold proof_reverse.f at hq
      cases k with
      | zero => simp [proof_reverse.l0] at hq
      | succ k =>
        simp only [proof_reverse.l0] at hq
        rw [if_neg (by simp [wrap64])] at hq
        exact (Option.some.inj hq).symm
    subst hq2
    rw [List.append_nil, he, List.take_length]
    exact ⟨rfl, Kd.R_mono ho0 (fun _ hk => .inl hk), hB, Kept.refl _ _⟩
  · have hlt : i.toNat < l.length := by omega
    obtain ⟨g, cap, hv, _⟩ := Kd.R_form ho0 (by omega)
    injection hv with h1 h2 h3
    subst h1 h2 h3
    rw [if_neg (by have := hn.2.1; omega)] at hA
    have hA' : A = some ⟨g, i.toNat * 2, none⟩ := by rw [hA]; simp [add_plain]
    rw [hA']
    have hl : l.length - i.toNat = (l.drop i.toNat).length := by rw [List.length_drop]
    rw [hl]
    refine (proof_reverse.tail k P0_ g _ _ _ (i.toNat * 2) (l.take i.toNat) (l.drop i.toNat) q w0 w ?_ hB ?_ hq)
    · rw [List.length_take, Nat.min_eq_left (by omega)]
    · rw [List.take_append_drop]
      exact ho0
end Go.Proofs.YtfhcpniibiobgaaDoor.Qf
