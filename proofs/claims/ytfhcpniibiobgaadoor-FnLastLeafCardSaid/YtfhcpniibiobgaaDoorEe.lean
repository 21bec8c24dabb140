/- impl.RootHash, walked. -/
import Derived.Test.YtfhcpniibiobgaaDoorEz
namespace Go.Proofs.YtfhcpniibiobgaaDoor.Qf
open Go.RowKit Go.Proofs.YtfhcpniibiobgaaDoorW.PrintWords Go.Proofs.YtfhcpniibiobgaaDoorW.PrintLast Go.Proofs.YtfhcpniibiobgaaDoorW.PrintMore
open Hs (CB CL at_L at_B infoB infoL R_of_blk)
open Go.Proofs.YtfhcpniibiobgaaDoor.Pure (hcF hcF_len toyHC chB)

theorem mf1 (first : Value) (W : World) : (Instr.makeFunc (.func 53) #[first] #[]).run Tryd.prog W = .ok (.func (.func 53) #[first] #[]) W := rfl
theorem mf2 (cap : Value) (W : World) : (Instr.makeFunc (.func 56) #[] #[cap]).run Tryd.prog W = .ok (.func (.func 56) #[] #[cap]) W := rfl
set_option maxHeartbeats 4000000 in
set_option maxRecDepth 100000 in
theorem rootHash_calls (a0 a1 a2 a3 a4 a5 : Int) (e : Nat) (A : Option Addr) (c m : Nat) (hs : List (List Int)) (r : List Int) (w : World) (hm : hs.length = m + 1) (hm2 : m ≤ 1000) (hc : hs.length ≤ c) (he : e < 18446744073709551616) (HG_ : Glob w) (hrow : ∀ h ∈ hs, h.length ≤ 3000000000) (hl : CL w A hs) (k : Nat) (htx : impl_texts.f k hs = some hs) (hsz : compact_RangeSize.f ((0 : Nat) : Int) (e : Int) = some (hs.length : Int)) (h : chB a0 a2 a5 (hs.take m).reverse (hs.getD m []) = r) :
    Calls Tryd.prog 21 #[.agg #[.int .i64 a0, .int .i64 a1, .int .i64 a2, .int .u64 a3, .int .u64 a4, .int .u64 a5], .agg #[.int .u64 0, .int .u64 (e : Int), .slice A hs.length c]] w fun en w' => ∃ A' c' v, en = .returned (.tuple #[.slice A' r.length c', v, .bool true]) ∧ r.length ≤ c' ∧ CB w' A' r ∧ Below w.heap.size w w' := by
  have HG := Aside0.mk HG_
  have HL := Aside0.mk hl
  have HH := Aside0.mk h
  have HTX := Aside0.mk htx
  have HSZ := Aside0.mk hsz
  have HRW := Aside0.mk hrow
  have HM := Aside0.mk hm
  clear HG_ hl h htx hsz hrow hm
  have hmf1 := mf1
  have hmf2 := mf2
  have HB1 : Aside0 (Below w.heap.size w (((w.alloc (.cells #[.int .i64 a0, .int .i64 a1, .int .i64 a2, .int .u64 a3, .int .u64 a4, .int .u64 a5] 24)).alloc (.cells #[.int .u64 0, .int .u64 (e : Int), .slice A hs.length c] 35)).alloc (.cells #[.func (.func 53) #[.agg #[.int .i64 a0, .int .i64 a1, .int .i64 a2, .int .u64 a3, .int .u64 a4, .int .u64 a5]] #[]] 100))) := ⟨below_alloc (below_alloc (below_alloc (Below.refl _ _) _) _) _⟩
  have RB : Aside0 ((((w.alloc (.cells #[.int .i64 a0, .int .i64 a1, .int .i64 a2, .int .u64 a3, .int .u64 a4, .int .u64 a5] 24)).alloc (.cells #[.int .u64 0, .int .u64 (e : Int), .slice A hs.length c] 35)).alloc (.cells #[.func (.func 53) #[.agg #[.int .i64 a0, .int .i64 a1, .int .i64 a2, .int .u64 a3, .int .u64 a4, .int .u64 a5]] #[]] 100)).heap[w.heap.size + 1]? = some (.cells #[.int .u64 0, .int .u64 (e : Int), .slice A hs.length c] 35 (0, 0))) := ⟨by
    have h1 := blk_below (heap_alloc_new (w.alloc (.cells #[.int .i64 a0, .int .i64 a1, .int .i64 a2, .int .u64 a3, .int .u64 a4, .int .u64 a5] 24)) (.cells #[.int .u64 0, .int .u64 (e : Int), .slice A hs.length c] 35)) (below_alloc (Below.refl _ _) (.cells #[.func (.func 53) #[.agg #[.int .i64 a0, .int .i64 a1, .int .i64 a2, .int .u64 a3, .int .u64 a4, .int .u64 a5]] #[]] 100))
    simpa using h1⟩
  have FB : Aside0 ((((w.alloc (.cells #[.int .i64 a0, .int .i64 a1, .int .i64 a2, .int .u64 a3, .int .u64 a4, .int .u64 a5] 24)).alloc (.cells #[.int .u64 0, .int .u64 (e : Int), .slice A hs.length c] 35)).alloc (.cells #[.func (.func 53) #[.agg #[.int .i64 a0, .int .i64 a1, .int .i64 a2, .int .u64 a3, .int .u64 a4, .int .u64 a5]] #[]] 100)).heap[w.heap.size + 1 + 1]? = some (facObj a0 a1 a2 a3 a4 a5)) := ⟨by
    have h1 := heap_alloc_new ((w.alloc (.cells #[.int .i64 a0, .int .i64 a1, .int .i64 a2, .int .u64 a3, .int .u64 a4, .int .u64 a5] 24)).alloc (.cells #[.int .u64 0, .int .u64 (e : Int), .slice A hs.length c] 35)) (.cells #[.func (.func 53) #[.agg #[.int .i64 a0, .int .i64 a1, .int .i64 a2, .int .u64 a3, .int .u64 a4, .int .u64 a5]] #[]] 100)
    simpa using h1⟩
  go_enter Tryd.func21, Tryd.ntmps21
  go_wp2
  generalize (((w.alloc (.cells #[.int .i64 a0, .int .i64 a1, .int .i64 a2, .int .u64 a3, .int .u64 a4, .int .u64 a5] 24)).alloc (.cells #[.int .u64 0, .int .u64 (e : Int), .slice A hs.length c] 35)).alloc (.cells #[.func (.func 53) #[.agg #[.int .i64 a0, .int .i64 a1, .int .i64 a2, .int .u64 a3, .int .u64 a4, .int .u64 a5]] #[]] 100)) = W1 at HB1 RB FB ⊢
  have HL1 := Aside0.mk (Kd.C_below HL.out HB1.out)
  have r0 : W1.cell? ⟨w.heap.size + 1, 0, none⟩ = some (.int .u64 0) := (blk_cell RB.out 0).trans rfl
  have r1 : W1.cell? ⟨w.heap.size + 1, 1, none⟩ = some (.int .u64 (e : Int)) := (blk_cell RB.out 1).trans rfl
  have r2 : W1.cell? ⟨w.heap.size + 1, 2, none⟩ = some (.slice A hs.length c) := (blk_cell RB.out 2).trans rfl
  go_region_held3 (fun w' => w'.cell? ⟨w.heap.size + 1, 0, none⟩ = some (.int .u64 0) ∧ w'.cell? ⟨w.heap.size + 1, 1, none⟩ = some (.int .u64 (e : Int)) ∧ w'.cell? ⟨w.heap.size + 1, 2, none⟩ = some (.slice A hs.length c) ∧ Below W1.heap.size W1 w')
    (((try dsimp only); (try go_split_ands); (repeat' apply And.intro) <;> first | (go_keep; done) | exact below_drew (Below.refl _ _) | (refine pw_cell_below hb ?_; assumption) | (refine below_then ?_ ?_ hb; assumption; exact Below.size (by assumption))))
    (first
      | (go_at_call 48; have hB0 := Aside0.mk (show Below W1.heap.size W1 _ by go_split_ands; assumption); refine (impl_texts.calls k A c hs hs _ (Kd.C_below HL1.out hB0.out) hc HTX.out).mono ?_; rintro e' w2 ⟨v1, rfl, hS, hb⟩; obtain ⟨B2, d2, rfl, hd2, hC⟩ := Kd.S_reads hS; have HC2 := Aside0.mk hC; have HD2 := Aside0.mk hd2; clear hS hC hd2)
      | (go_at_call 54; refine (newRange_calls (w.heap.size + 1 + 1) 0 e B2 hs.length d2 (Nat.zero_le _) HSZ.out _).mono ?_; rintro e' w3 ⟨g, rfl, hg1, hg2, hg3, hb⟩; have HG3 := Aside0.mk hg3; have HC3 := Aside0.mk (Kd.C_below HC2.out hb); clear hg3))
  go_split_ands
  have hB3 : Below W1.heap.size W1 w3 := by assumption
  have HB3 := Aside0.mk (below_then HB1.out HB1.out.size hB3)
  have FB3 := Aside0.mk (blk_below FB.out hB3)
  go_wp2_with (first
    | (go_at_call 55; refine (getRoot_calls a0 a1 a2 a3 a4 a5 g (w.heap.size + 1 + 1) e B2 d2 m hs r w3 _ (.slice none 0 0) HM.out hm2 he (Glob.below HG.out HB3.out) HRW.out FB3.out HG3.out HC3.out ⟨below_alloc (Below.refl _ _) _, heap_alloc_new _ _, Kd.R_nil _ _ _ _ _⟩ HH.out).mono ?_; rintro e4 w4 ⟨A4, c4, n4, v4, rfl, hl4, hl5, hC4, hS4⟩; have HC4 := Aside0.mk hC4; have HS4 := Aside0.mk hS4; have HL4 := Aside0.mk hl4; have HL5 := Aside0.mk hl5; clear hC4 hS4 hl4 hl5))
  have HB4 := Aside0.mk (below_then HB3.out HB3.out.size HS4.out.below)
  have HB5 := Aside0.mk (below_drew1 HB4.out)
  have SK : Aside0 (w4.drew.heap[w3.heap.size]? = some (.cells #[v4] 37 (0, 0))) := ⟨blk_drew HS4.out.cell⟩
  have HC5 := Aside0.mk (Kd.C_below HC4.out (below_drew (Below.refl w4.heap.size w4)))
  refine start_ (n := 6) (S := fun w' => w'.cell? ⟨w3.heap.size, 0, none⟩ = some v4) (ds := []) #[false, false, false, false, false, false] (by kernel_rfl) rfl rfl (cell_of_one SK.out) (fun hHeld => ?_)
  generalize w4.drew = wz at HB5 SK HC5 hHeld ⊢
  refine pure_ (i := 0) (N := some 39) (v := ?_) (a' := ?_) #[true, false, false, false, false, false] rfl rfl (by kernel_rfl) (fun _ _ _ h => h) (Or.inl ⟨by rfl, ?_⟩) ?_ ?_
  rotate_left
  · intro w'
    go_simp
    with_reducible rfl
  rotate_left
  · simp only [Act.put, List.setIfInBounds_toArray, List.set_cons_zero, List.set_cons_succ]
    rfl
  refine take_ (i := 2) (N := some 41) (v := ?_) (a' := ?_) #[true, false, true, false, false, false] rfl rfl (by kernel_rfl) (fun _ _ _ h => h) (Or.inl ⟨by rfl, ?_⟩) hHeld ?_ ?_
  rotate_left
  · intro w' s0
    go_simp
    with_reducible rfl
  rotate_left
  · simp only [Act.put, List.setIfInBounds_toArray, List.set_cons_zero, List.set_cons_succ]
    rfl
  refine one_ (i := 1) (N := some 40) #[true, true, true, false, false, false] rfl rfl (by kernel_rfl) (by decide) (fun K hK => ?_)
  refine Kd.R_append_rows_step (Kd.int .u8) (w0 := w) w.heap.size rfl (.const (.slice none 0 0)) (.tmp 39) 28 5 (.int .u8 0) 1 rfl Tryd.underlying28 infoB rfl (by decide) (by omega) (.slice none 0 0) [] r A4 r.length c4 (fun _ => True) (fun _ => False) rfl rfl (Kd.R_nil _ _ _ _ _) HC5.out (fun _ _ h => h) (fun _ h => h.elim) (fun _ _ => trivial) HB5.out (below_size HB5.out) (by have := HL5.out; simp; omega) ?_
  intro v6 w6 hR6 hB6 hG6 hA6
  refine hK.out _ _ (cell_of_one ((hG6.block _ (lt_of_block SK.out) (by simp [Value.ownBlock])).trans SK.out)) (fun hHeld => ?_)
  rw [List.nil_append] at hR6
  obtain ⟨A6, c6, rfl, hl6, hC6⟩ := Kd.R_reads hR6
  have HC6 := Aside0.mk hC6
  have HB6 := Aside0.mk hB6
  have HL6 := Aside0.mk hl6
  clear hK K hG6 hA6 hR6 hC6 hB6 hl6
  refine norm_ (a' := ?_) ?_ ?_
  rotate_left
  · show Act.put _ (some 40) _ = _
    simp only [Act.put, List.setIfInBounds_toArray, List.set_cons_zero, List.set_cons_succ]
    rfl
  refine pure_ (i := 3) (N := some 4) (v := ?_) (a' := ?_) #[true, true, true, true, false, false] rfl rfl (by kernel_rfl) (fun _ _ _ h => h) (Or.inl ⟨by rfl, ?_⟩) ?_ ?_
  rotate_left
  · intro w'
    go_simp
    with_reducible rfl
  rotate_left
  · simp only [Act.put, List.setIfInBounds_toArray, List.set_cons_zero, List.set_cons_succ]
    rfl
  refine pure_ (i := 4) (N := some 5) (v := ?_) (a' := ?_) #[true, true, true, true, true, false] rfl rfl (by kernel_rfl) (fun _ _ _ h => h) (Or.inl ⟨by rfl, ?_⟩) ?_ ?_
  rotate_left
  · intro w'
    go_simp
    with_reducible rfl
  rotate_left
  · simp only [Act.put, List.setIfInBounds_toArray, List.set_cons_zero, List.set_cons_succ]
    rfl
  refine pure_ (i := 5) (N := some 6) (v := ?_) (a' := ?_) #[true, true, true, true, true, true] rfl rfl (by kernel_rfl) (fun _ _ _ h => h) (Or.inl ⟨by rfl, ?_⟩) ?_ ?_
  rotate_left
  · intro w'
    go_simp
    with_reducible rfl
  rotate_left
  · simp only [Act.put, List.setIfInBounds_toArray, List.set_cons_zero, List.set_cons_succ]
    rfl
  refine done_ (by kernel_rfl) ?_
  try go_wp2
  go_ret3
  exact ⟨_, _, _, rfl, HL6.out, HC6.out, HB6.out⟩
end Go.Proofs.YtfhcpniibiobgaaDoor.Qf
