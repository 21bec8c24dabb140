/- impl.EqualRanges, walked. -/
import Derived.Test.YtfhcpniibiobgaaDoorGi
namespace Go.Proofs.YtfhcpniibiobgaaDoor.Qf
open Go.RowKit Go.Proofs.YtfhcpniibiobgaaDoorW.PrintWords Go.Proofs.YtfhcpniibiobgaaDoorW.PrintLast Go.Proofs.YtfhcpniibiobgaaDoorW.PrintMore
open Hs (CB CL at_L at_B infoB infoL R_of_blk sameF)

theorem three_allocs (w : World) (c1 : Array Value) (t1 : Nat) (c2 : Array Value) (t2 : Nat) (c3 : Array Value) (t3 : Nat) : Below w.heap.size w (((w.alloc (.cells c1 t1)).alloc (.cells c2 t2)).alloc (.cells c3 t3)) ∧ (((w.alloc (.cells c1 t1)).alloc (.cells c2 t2)).alloc (.cells c3 t3)).heap[w.heap.size]? = some (.cells c1 t1 (0, 0)) ∧ (((w.alloc (.cells c1 t1)).alloc (.cells c2 t2)).alloc (.cells c3 t3)).heap[w.heap.size + 1]? = some (.cells c2 t2 (0, 0)) ∧ (((w.alloc (.cells c1 t1)).alloc (.cells c2 t2)).alloc (.cells c3 t3)).heap[w.heap.size + 1 + 1]? = some (.cells c3 t3 (0, 0)) := by
  have s1 : (w.alloc (.cells c1 t1)).heap.size = w.heap.size + 1 := by simp
  have s2 : ((w.alloc (.cells c1 t1)).alloc (.cells c2 t2)).heap.size = w.heap.size + 1 + 1 := by simp
  refine ⟨below_alloc (below_alloc (below_alloc (Below.refl _ _) _) _) _, ?_, ?_, ?_⟩
  · exact blk_below (heap_alloc_new w (.cells c1 t1)) (below_alloc (below_alloc (Below.refl _ _) (.cells c2 t2)) (.cells c3 t3))
  · have h := blk_below (heap_alloc_new (w.alloc (.cells c1 t1)) (.cells c2 t2)) (below_alloc (Below.refl _ _) (.cells c3 t3))
    rwa [s1] at h
  · have h := heap_alloc_new ((w.alloc (.cells c1 t1)).alloc (.cells c2 t2)) (.cells c3 t3)
    rwa [s2] at h
set_option maxHeartbeats 4000000 in
set_option maxRecDepth 100000 in
theorem equalRanges_calls (b e : Nat) (A : Option Addr) (c : Nat) (l : List (List Int)) (A2 : Option Addr) (c2 : Nat) (m : List (List Int)) (k : Nat) (w : World) (hc : l.length ≤ c) (hc2 : m.length ≤ c2) (hl : CL w A l) (hm : CL w A2 m) (ht : impl_texts.f k l = some l) (htm : impl_texts.f k m = some m) (hbe : b ≤ e) (hsz : compact_RangeSize.f (b : Int) (e : Int) = some (l.length : Int)) (hszm : compact_RangeSize.f (b : Int) (e : Int) = some (m.length : Int)) (hll : l.length ≤ 1000) :
    Calls Tryd.prog 32 #[.agg #[.int .u64 (b : Nat), .int .u64 (e : Nat), .slice A l.length c], .agg #[.int .u64 (b : Nat), .int .u64 (e : Nat), .slice A2 m.length c2]] w fun en w' => en = .returned (.bool (sameF l m)) ∧ Below w.heap.size w w' := by
  have hlm : l.length = m.length := by
    have := Option.some.inj (hsz.symm.trans hszm)
    omega
  have HLM := Aside0.mk hlm
  have HL := Aside0.mk hl
  have HM := Aside0.mk hm
  have HT := Aside0.mk ht
  have HTM := Aside0.mk htm
  have HSZ := Aside0.mk hsz
  have HSM := Aside0.mk hszm
  have HBE := Aside0.mk hbe
  have HLL := Aside0.mk hll
  clear hlm hl hm ht htm hsz hszm hbe hll
  have hmf1 := mf1
  go_enter Tryd.func32, Tryd.ntmps32
  go_wp2
  obtain ⟨hB1, hRA, hRB, hFB⟩ := three_allocs w #[.int .u64 (b : Nat), .int .u64 (e : Nat), .slice A l.length c] 35 #[.int .u64 (b : Nat), .int .u64 (e : Nat), .slice A2 m.length c2] 35 #[.func (.func 53) #[.agg #[.int .i64 0, .int .i64 0, .int .i64 0, .int .u64 0, .int .u64 0, .int .u64 0]] #[]] 100
  generalize hW1 : (((w.alloc (.cells #[.int .u64 (b : Nat), .int .u64 (e : Nat), .slice A l.length c] 35)).alloc (.cells #[.int .u64 (b : Nat), .int .u64 (e : Nat), .slice A2 m.length c2] 35)).alloc (.cells #[.func (.func 53) #[.agg #[.int .i64 0, .int .i64 0, .int .i64 0, .int .u64 0, .int .u64 0, .int .u64 0]] #[]] 100)) = W1 at hB1 hRA hRB hFB ⊢
  have HB1 := Aside0.mk hB1
  have RA := Aside0.mk hRA
  have RB := Aside0.mk hRB
  have FB := Aside0.mk hFB
  clear hB1 hRA hRB hFB hW1
  have HL1 := Aside0.mk (Kd.C_below HL.out HB1.out)
  have r0 : W1.cell? ⟨w.heap.size, 0, none⟩ = some (.int .u64 (b : Nat)) := (blk_cell RA.out 0).trans rfl
  have r1 : W1.cell? ⟨w.heap.size, 1, none⟩ = some (.int .u64 (e : Nat)) := (blk_cell RA.out 1).trans rfl
  have r2 : W1.cell? ⟨w.heap.size, 2, none⟩ = some (.slice A l.length c) := (blk_cell RA.out 2).trans rfl
  go_region_held3 (fun w' => w'.cell? ⟨w.heap.size, 0, none⟩ = some (.int .u64 (b : Nat)) ∧ w'.cell? ⟨w.heap.size, 1, none⟩ = some (.int .u64 (e : Nat)) ∧ w'.cell? ⟨w.heap.size, 2, none⟩ = some (.slice A l.length c) ∧ Below W1.heap.size W1 w')
    (((try dsimp only); (try go_split_ands); (repeat' apply And.intro) <;> first | (go_keep; done) | exact below_drew (Below.refl _ _) | (refine pw_cell_below hb ?_; assumption) | (refine below_then ?_ ?_ hb; assumption; exact Below.size (by assumption))))
    (first
      | (go_at_call 48; have hB0 := Aside0.mk (show Below W1.heap.size W1 _ by go_split_ands; assumption); refine (impl_texts.calls k A c l l _ (Kd.C_below HL1.out hB0.out) hc HT.out).mono ?_; rintro e' w2 ⟨v1, rfl, hS, hb⟩; obtain ⟨B2, d2, rfl, hd2, hC2⟩ := Kd.S_reads hS; have HC2 := Aside0.mk hC2; have HD2 := Aside0.mk hd2; clear hS hC2 hd2)
      | (go_at_call 54; refine (newRange_calls (w.heap.size + 1 + 1) b e B2 l.length d2 HBE.out HSZ.out _).mono ?_; rintro e' w3 ⟨g, rfl, hg1, hg2, hg3, hb⟩; have HG3 := Aside0.mk hg3; have HC3 := Aside0.mk (Kd.C_below HC2.out hb); clear hg3 hg1 hg2))
  go_split_ands
  clear r0 r1 r2
  have HB3 : Aside0 (Below W1.heap.size W1 w3) := ⟨by assumption⟩
  go_wp2
  have HM3 := Aside0.mk (Kd.C_below HM.out (below_then HB1.out HB1.out.size HB3.out))
  have r0 : w3.cell? ⟨w.heap.size + 1, 0, none⟩ = some (.int .u64 (b : Nat)) := (blk_cell (blk_below RB.out HB3.out) 0).trans rfl
  have r1 : w3.cell? ⟨w.heap.size + 1, 1, none⟩ = some (.int .u64 (e : Nat)) := (blk_cell (blk_below RB.out HB3.out) 1).trans rfl
  have r2 : w3.cell? ⟨w.heap.size + 1, 2, none⟩ = some (.slice A2 m.length c2) := (blk_cell (blk_below RB.out HB3.out) 2).trans rfl
  go_region_held3 (fun w' => w'.cell? ⟨w.heap.size + 1, 0, none⟩ = some (.int .u64 (b : Nat)) ∧ w'.cell? ⟨w.heap.size + 1, 1, none⟩ = some (.int .u64 (e : Nat)) ∧ w'.cell? ⟨w.heap.size + 1, 2, none⟩ = some (.slice A2 m.length c2) ∧ Below w3.heap.size w3 w')
    (((try dsimp only); (try go_split_ands); (repeat' apply And.intro) <;> first | (go_keep; done) | exact below_drew (Below.refl _ _) | (refine pw_cell_below hb ?_; assumption) | (refine below_then ?_ ?_ hb; assumption; exact Below.size (by assumption))))
    (first
      | (go_at_call 48; have hB0 := Aside0.mk (show Below w3.heap.size w3 _ by go_split_ands; assumption); refine (impl_texts.calls k A2 c2 m m _ (Kd.C_below HM3.out hB0.out) hc2 HTM.out).mono ?_; rintro e' w4 ⟨v4, rfl, hS, hb⟩; obtain ⟨B4, d4, rfl, hd4, hC4⟩ := Kd.S_reads hS; have HC4 := Aside0.mk hC4; clear hS hC4 hd4)
      | (go_at_call 54; refine (newRange_calls (w.heap.size + 1 + 1) b e B4 m.length d4 HBE.out HSM.out _).mono ?_; rintro e' w5 ⟨g5, rfl, hg1, hg2, hg5, hb⟩; have HG5 := Aside0.mk hg5; have HC5 := Aside0.mk (Kd.C_below HC4.out hb); clear hg5 hg1 hg2))
  go_split_ands
  have HB5 : Aside0 (Below w3.heap.size w3 w5) := ⟨by assumption⟩
  clear r0 r1 r2
  go_wp2_with (first
    | (go_at_call 69; (with_reducible refine (rEqual_calls g g5 (w.heap.size + 1 + 1) (b : Int) (e : Int) B2 d2 l B4 d4 m HLL.out HLM.out _ (blk_below HG3.out HB5.out) HG5.out (Kd.C_below HC3.out HB5.out) HC5.out).mono ?_); rintro en w6 ⟨rfl, hb⟩; have HB6 := Aside0.mk hb; clear hb))
  go_ret
  exact ⟨rfl, below_then HB1.out HB1.out.size (below_then HB3.out HB3.out.size (below_then HB5.out HB5.out.size HB6.out))⟩
/-- What Append wants for a range that begins with nothing at b. -/
structure ApOk (a0 a1 a2 a3 a4 a5 : Int) (b : Nat) (M : List (List Int)) (ls : Nat → List (List Int)) (k : Nat) : Prop where
  t0 : impl_texts.f k [] = some []
  tM : impl_texts.f k M = some M
  te : impl_texts.f k (ls M.length) = some (ls M.length)
  sz0 : compact_RangeSize.f (b : Int) (b : Int) = some 0
  sze : compact_RangeSize.f (b : Int) ((b + M.length : Nat) : Int) = some ((ls M.length).length : Int)
  he : b + M.length < 18446744073709551616
  hMl : M.length ≤ 300
  hMr : ∀ j, j < M.length → (M.getD j []).length ≤ 140737488351232
  hs0 : ls 0 = []
  hst : ∀ j, j < M.length → MStep a0 a1 a2 a3 a4 a5 b (b + j) (ls j) (M.getD j []) (ls (j + 1))
  hsl : ∀ j, j ≤ M.length → (ls j).length ≤ 500
theorem nil_C (w : World) : CL w none [] := ⟨rfl, by simp, fun h => by simp at h⟩
theorem append_new {a0 a1 a2 a3 a4 a5 : Int} {b : Nat} {M : List (List Int)} {ls : Nat → List (List Int)} {k : Nat} (h : ApOk a0 a1 a2 a3 a4 a5 b M ls k) (E : Nat) (hE : b + M.length = E) (Am : Option Addr) (cm : Nat) (w : World) (hcm : M.length ≤ cm) (hM : CL w Am M) (HG_ : Glob w) :
    Calls Tryd.prog 26 #[.agg #[.int .i64 a0, .int .i64 a1, .int .i64 a2, .int .u64 a3, .int .u64 a4, .int .u64 a5], .agg #[.int .u64 (b : Nat), .int .u64 (b : Nat), .slice none 0 0], .slice Am M.length cm] w fun en w' => ∃ A c vs, en = .returned (.tuple #[.agg #[.int .u64 (b : Nat), .int .u64 (E : Int), .slice A (ls M.length).length c], vs, .bool true]) ∧ (ls M.length).length ≤ c ∧ CL w' A (ls M.length) ∧ Below w.heap.size w w' :=
  (append_calls a0 a1 a2 a3 a4 a5 b b none 0 [] Am cm M ls k w (Nat.le_refl _) hcm (nil_C w) hM HG_ h.t0 h.tM h.te (Nat.le_refl _) h.sz0 h.he (by simp) h.hMl h.hMr h.hs0 h.hst h.hsl).mono fun _ w' ⟨v, vs, e1, e2, e3⟩ => by
    obtain ⟨A, c, rfl, h1, h2⟩ := Kd.S_reads e2
    subst hE
    exact ⟨A, c, vs, e1, h1, h2, e3⟩
end Go.Proofs.YtfhcpniibiobgaaDoor.Qf
