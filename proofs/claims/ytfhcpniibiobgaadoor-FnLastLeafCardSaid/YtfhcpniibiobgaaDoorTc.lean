/- growthLeaf; growthRoot of a range and a leaf's (printed by gen_tc.py). -/
import Derived.Test.YtfhcpniibiobgaaDoorTz
import Derived.Test.YtfhcpniibiobgaaDoorEe
namespace Go.Proofs.YtfhcpniibiobgaaDoor.Qr
open Go.Proofs.YtfhcpniibiobgaaDoor.Qf
open Go.RowKit Go.Proofs.YtfhcpniibiobgaaDoorW.PrintWords Go.Proofs.YtfhcpniibiobgaaDoorW.PrintLast Go.Proofs.YtfhcpniibiobgaaDoorW.PrintMore
open Hs (CB CL at_L at_B infoB infoL R_of_blk)
open Go.Proofs.YtfhcpniibiobgaaDoor.Pure (hcF chB)

set_option maxHeartbeats 2000000 in
set_option maxRecDepth 100000 in
theorem leaf_calls (x : Int) (A1 : Option Addr) (n1 c1 : Nat) (w : World) :
    Calls Tryd.prog 41 #[.int .u64 x, .slice A1 n1 c1] w fun en w' => ∃ g, en = .returned (.agg #[.int .u64 x, .int .u64 (IntKind.u64.wrap (x + 1)), .slice (some ⟨g, 0, none⟩) 1 1]) ∧ w.heap.size ≤ g ∧ w'.heap[g]? = some (.cells #[.slice A1 n1 c1] 28 (0, 0)) ∧ Below w.heap.size w w' := by
  go_enter Tryd.func41, Tryd.ntmps41
  have SA := blk_below (heap_alloc_new w (.cells #[.int .u64 x, .int .u64 (IntKind.u64.wrap (x + 1)), .slice (some ⟨w.heap.size + 1, 0, none⟩) 1 1] 35)) (below_alloc (Below.refl _ _) (.cells #[.slice A1 n1 c1] 28))
  have HG := heap_alloc_new (w.alloc (.cells #[.int .u64 x, .int .u64 (IntKind.u64.wrap (x + 1)), .slice (some ⟨w.heap.size + 1, 0, none⟩) 1 1] 35)) (.cells #[.slice A1 n1 c1] 28)
  have HB : Below w.heap.size w ((w.alloc (.cells #[.int .u64 x, .int .u64 (IntKind.u64.wrap (x + 1)), .slice (some ⟨w.heap.size + 1, 0, none⟩) 1 1] 35)).alloc (.cells #[.slice A1 n1 c1] 28)) := below_alloc (below_alloc (Below.refl _ _) _) _
  have hz : (w.alloc (.cells #[.int .u64 x, .int .u64 (IntKind.u64.wrap (x + 1)), .slice (some ⟨w.heap.size + 1, 0, none⟩) 1 1] 35)).heap.size = w.heap.size + 1 := by simp
  rw [hz] at HG
  go_wp2
  generalize ((w.alloc (.cells #[.int .u64 x, .int .u64 (IntKind.u64.wrap (x + 1)), .slice (some ⟨w.heap.size + 1, 0, none⟩) 1 1] 35)).alloc (.cells #[.slice A1 n1 c1] 28)) = wf at SA HG HB ⊢
  have g0 : wf.cell? ⟨w.heap.size, 0, none⟩ = some (.int .u64 x) := (blk_cell SA 0).trans rfl
  have g1 : wf.cell? ⟨w.heap.size, 1, none⟩ = some (.int .u64 (IntKind.u64.wrap (x + 1))) := (blk_cell SA 1).trans rfl
  have g2 : wf.cell? ⟨w.heap.size, 2, none⟩ = some (.slice (some ⟨w.heap.size + 1, 0, none⟩) 1 1) := (blk_cell SA 2).trans rfl
  exact bodyPost_ret (v := .agg #[.int .u64 x, .int .u64 (IntKind.u64.wrap (x + 1)), .slice (some ⟨w.heap.size + 1, 0, none⟩) 1 1]) (by simp [results, Tryd.results41, go_sem, g0, g1, g2]) rfl ⟨w.heap.size + 1, rfl, Nat.le_succ _, HG, HB⟩

theorem allocs2 (w : World) (c1 : Array Value) (t1 : Nat) (c2 : Array Value) (t2 : Nat) : Below w.heap.size w ((w.alloc (.cells c1 t1)).alloc (.cells c2 t2)) ∧ ((w.alloc (.cells c1 t1)).alloc (.cells c2 t2)).heap[w.heap.size]? = some (.cells c1 t1 (0, 0)) ∧ ((w.alloc (.cells c1 t1)).alloc (.cells c2 t2)).heap[w.heap.size + 1]? = some (.cells c2 t2 (0, 0)) := by
  have s1 : (w.alloc (.cells c1 t1)).heap.size = w.heap.size + 1 := by simp
  refine ⟨(below_alloc (below_alloc (Below.refl _ _) (.cells c1 t1)) (.cells c2 t2)), ?_, ?_⟩
  · exact blk_below (heap_alloc_new w (.cells c1 t1)) (below_alloc (Below.refl _ _) (.cells c2 t2))
  · have h := blk_below (heap_alloc_new (w.alloc (.cells c1 t1)) (.cells c2 t2)) (Below.refl _ _)
    rwa [s1] at h

theorem box6 {w : World} {g : Nat} {a0 a1 a2 a3 a4 a5 : Int} (h : w.heap[g]? = some (.cells #[.int .i64 a0, .int .i64 a1, .int .i64 a2, .int .u64 a3, .int .u64 a4, .int .u64 a5] 24 (0, 0))) : w.cell? ⟨g, 0, none⟩ = some (.int .i64 a0) ∧ w.cell? ⟨g, 1, none⟩ = some (.int .i64 a1) ∧ w.cell? ⟨g, 2, none⟩ = some (.int .i64 a2) ∧ w.cell? ⟨g, 3, none⟩ = some (.int .u64 a3) ∧ w.cell? ⟨g, 4, none⟩ = some (.int .u64 a4) ∧ w.cell? ⟨g, 5, none⟩ = some (.int .u64 a5) :=
  ⟨(blk_cell h 0).trans rfl, (blk_cell h 1).trans rfl, (blk_cell h 2).trans rfl, (blk_cell h 3).trans rfl, (blk_cell h 4).trans rfl, (blk_cell h 5).trans rfl⟩
theorem box3 {w : World} {g : Nat} {b e : Int} {A : Option Addr} {n c : Nat} (h : w.heap[g]? = some (.cells #[.int .u64 b, .int .u64 e, .slice A n c] 35 (0, 0))) : w.cell? ⟨g, 0, none⟩ = some (.int .u64 b) ∧ w.cell? ⟨g, 1, none⟩ = some (.int .u64 e) ∧ w.cell? ⟨g, 2, none⟩ = some (.slice A n c) :=
  ⟨(blk_cell h 0).trans rfl, (blk_cell h 1).trans rfl, (blk_cell h 2).trans rfl⟩
theorem appendRange0_calls (a0 a1 a2 a3 a4 a5 : Int) (e E1 : Nat) (A : Option Addr) (c : Nat) (l0 : List (List Int)) (Am : Option Addr) (cm : Nat) (s : List Int) (l' : List (List Int)) (k : Nat) (w : World) (hc : l0.length ≤ c) (hcm : 1 ≤ cm) (hl : CL w A l0) (hM : CL w Am [s]) (HG_ : Glob w) (ht0 : impl_texts.f k l0 = some l0) (htM : impl_texts.f k [s] = some [s]) (hte : impl_texts.f k l' = some l') (hsz : compact_RangeSize.f ((0 : Nat) : Int) (e : Int) = some (l0.length : Int)) (hsz1 : compact_RangeSize.f (e : Int) ((e + 1 : Nat) : Int) = some 1) (hE1 : e + 1 = E1) (he : E1 < 18446744073709551616) (hl0 : l0.length ≤ 400) (hst : MStep a0 a1 a2 a3 a4 a5 0 e l0 s l') :
    Calls Tryd.prog 33 #[.agg #[.int .i64 a0, .int .i64 a1, .int .i64 a2, .int .u64 a3, .int .u64 a4, .int .u64 a5], .agg #[.int .u64 0, .int .u64 (e : Nat), .slice A l0.length c], .agg #[.int .u64 (e : Nat), .int .u64 (E1 : Nat), .slice Am 1 cm]] w fun en w' => ∃ A6 d6 vs, en = .returned (.tuple #[.agg #[.int .u64 0, .int .u64 (E1 : Nat), .slice A6 l'.length d6], vs, .bool true]) ∧ Kd.S (Kd.slice 5 (Kd.int .u8)) 28 w' w.heap.size (fun _ => True) (.slice A6 l'.length d6) l' ∧ Below w.heap.size w w' := by
  subst hE1
  exact (appendRange1_calls a0 a1 a2 a3 a4 a5 0 e A c l0 Am cm s l' k w hc hcm hl hM HG_ ht0 htM hte (Nat.zero_le _) hsz hsz1 he hl0 hst).mono fun _ w' ⟨v, vs, e1, e2, e3⟩ => by
    obtain ⟨A6, d6, rfl, _, _⟩ := Kd.S_reads e2
    exact ⟨A6, d6, vs, e1, e2, e3⟩

theorem infoR : (Tryd.prog.info? 35).map (fun i => i.size) = some 3 := by kernel_rfl
set_option maxHeartbeats 4000000 in
set_option maxRecDepth 100000 in
theorem growthRoot_calls (a0 a1 a2 a3 a4 a5 : Int) (e E1 : Nat) (A : Option Addr) (c : Nat) (hs : List (List Int)) (Am : Option Addr) (cm : Nat) (s : List Int) (l' : List (List Int)) (m : Nat) (r : List Int) (k gl : Nat) (w : World) (hblk : w.heap[gl]? = some (.cells #[.int .u64 0, .int .u64 (e : Nat), .slice A hs.length c, .int .u64 (e : Nat), .int .u64 (E1 : Nat), .slice Am 1 cm] 35 (0, 0))) (hc : hs.length ≤ c) (hcm : 1 ≤ cm) (hl : CL w A hs) (hM : CL w Am [s]) (HG_ : Glob w) (ht0 : impl_texts.f k hs = some hs) (htM : impl_texts.f k [s] = some [s]) (hte : impl_texts.f k l' = some l') (hsz : compact_RangeSize.f ((0 : Nat) : Int) (e : Int) = some (hs.length : Int)) (hsz1 : compact_RangeSize.f (e : Int) ((e + 1 : Nat) : Int) = some 1) (hszE : compact_RangeSize.f ((0 : Nat) : Int) (E1 : Int) = some (l'.length : Int)) (hE1 : e + 1 = E1) (he : E1 < 18446744073709551616) (hl0 : hs.length ≤ 400) (hst : MStep a0 a1 a2 a3 a4 a5 0 e hs s l') (hm : l'.length = m + 1) (hm2 : m ≤ 1000) (hrow : ∀ h ∈ l', h.length ≤ 3000000000) (hr : chB a0 a2 a5 (l'.take m).reverse (l'.getD m []) = r) :
    Calls Tryd.prog 40 #[.agg #[.int .i64 a0, .int .i64 a1, .int .i64 a2, .int .u64 a3, .int .u64 a4, .int .u64 a5], .slice (some ⟨gl, 0, none⟩) 2 2] w fun en w' => ∃ A' c', en = .returned (.tuple #[.slice A' r.length c', .bool true]) ∧ r.length ≤ c' ∧ CB w' A' r ∧ Below w.heap.size w w' := by
  have HBK := Aside0.mk hblk
  have HL := Aside0.mk hl
  have HM := Aside0.mk hM
  have HG := Aside0.mk HG_
  have HT0 := Aside0.mk ht0
  have HTM := Aside0.mk htM
  have HTE := Aside0.mk hte
  have HSZ := Aside0.mk hsz
  have HS1 := Aside0.mk hsz1
  have HSE := Aside0.mk hszE
  have HE1 := Aside0.mk hE1
  have HE := Aside0.mk he
  have HL0 := Aside0.mk hl0
  have HST := Aside0.mk hst
  have HMM := Aside0.mk hm
  have HM2 := Aside0.mk hm2
  have HRW := Aside0.mk hrow
  have HR := Aside0.mk hr
  clear hl hM HG_ ht0 htM hte hsz hsz1 hszE he hl0 hst hm hm2 hrow hr hE1
  have hgl : gl < w.heap.size := lt_of_block hblk
  have b0 : w.cell? ⟨gl, 0, none⟩ = some (.int .u64 0) := (blk_cell hblk 0).trans rfl
  have b1 : w.cell? ⟨gl, 1, none⟩ = some (.int .u64 (e : Nat)) := (blk_cell hblk 1).trans rfl
  have b2 : w.cell? ⟨gl, 2, none⟩ = some (.slice A hs.length c) := (blk_cell hblk 2).trans rfl
  clear hblk
  obtain ⟨iL, hiL, hsL⟩ := Option.map_eq_some_iff.1 infoR
  have hcut : ∀ W : World, (Instr.slice 129 (.slice (some ⟨gl, 0, none⟩) 2 2) (some (.int .i64 1)) none none).run Tryd.prog W = .ok (.slice (some ⟨gl, 3, none⟩) 1 1) W := fun W => cut_from (P := Tryd.prog) 129 35 .i64 Tryd.underlying129 hiL 3 (by simpa using hsL) (some ⟨gl, 0, none⟩) 2 2 1 (by omega) (by omega) W
  clear hiL hsL
  go_enter Tryd.func40, Tryd.ntmps40
  go_wp2
  obtain ⟨hB1, hX1, hY1⟩ := allocs2 w #[.int .i64 a0, .int .i64 a1, .int .i64 a2, .int .u64 a3, .int .u64 a4, .int .u64 a5] 24 #[.int .u64 0, .int .u64 (e : Nat), .slice A hs.length c] 35
  generalize ((w.alloc (.cells #[.int .i64 a0, .int .i64 a1, .int .i64 a2, .int .u64 a3, .int .u64 a4, .int .u64 a5] 24)).alloc (.cells #[.int .u64 0, .int .u64 (e : Nat), .slice A hs.length c] 35)) = W1 at hB1 hX1 hY1 ⊢
  have HB1 := Aside0.mk hB1
  have HX1 := Aside0.mk hX1
  have HY1 := Aside0.mk hY1
  clear hB1 hX1 hY1 b0 b1 b2
  (try simp only [Act.put, List.setIfInBounds_toArray, List.set_cons_zero, List.set_cons_succ])
  go_loopg [7, 22] 1 (fun kq v7 v22 wr => ∃ j : Nat, j + kq = 1 ∧ v22 = .int .i64 (j : Nat) ∧ v7 = .bool true ∧ Aside0 (Below w.heap.size w wr) ∧ Aside0 (wr.heap[w.heap.size]? = some (.cells #[.int .i64 a0, .int .i64 a1, .int .i64 a2, .int .u64 a3, .int .u64 a4, .int .u64 a5] 24 (0, 0))) ∧ Aside0 ((j = 0 ∧ wr.heap[w.heap.size + 1]? = some (.cells #[.int .u64 0, .int .u64 (e : Nat), .slice A hs.length c] 35 (0, 0))) ∨ (j = 1 ∧ ∃ A6 d6, wr.heap[w.heap.size + 1]? = some (.cells #[.int .u64 0, .int .u64 (E1 : Nat), .slice A6 l'.length d6] 35 (0, 0)) ∧ l'.length ≤ d6 ∧ CL wr A6 l')))
  case atStart => exact ⟨0, rfl, rfl, rfl, HB1, HX1, ⟨.inl ⟨rfl, HY1.out⟩⟩⟩
  case round =>
    clear HB1 HX1 HY1
    obtain ⟨j, hj, rfl, rfl, HB, HX, HY⟩ := hrel
    rename World => wr
    obtain ⟨hk0, hk1, hk2, hk3, hk4, hk5⟩ := box6 HX.out
    have BKr := Aside0.mk (blk_below HBK.out HB.out)
    rcases HY.out with ⟨rfl, hy⟩ | ⟨rfl, A6, d6, hy, hd6, hC6⟩
    · clear HY
      have HY := Aside0.mk hy
      clear hy
      obtain ⟨y0, y1, y2⟩ := box3 HY.out
      have b3 : wr.cell? ⟨gl, 3, none⟩ = some (.int .u64 (e : Nat)) := (blk_cell BKr.out 3).trans rfl
      have b4 : wr.cell? ⟨gl, 4, none⟩ = some (.int .u64 (E1 : Nat)) := (blk_cell BKr.out 4).trans rfl
      have b5 : wr.cell? ⟨gl, 5, none⟩ = some (.slice Am 1 cm) := (blk_cell BKr.out 5).trans rfl
      have lt1 : w.heap.size < wr.heap.size := lt_of_block HX.out
      have lt2 : w.heap.size + 1 < wr.heap.size := lt_of_block HY.out
      have HBa : Aside0 (Below w.heap.size w (wr.alloc (.cells #[.int .u64 (e : Nat), .int .u64 (E1 : Nat), .slice Am 1 cm] 35))) := ⟨below_step HB.out (below_alloc (Below.refl _ _) _)⟩
      go_wp2_with (first
        | (go_at_call 33; (with_reducible refine (appendRange0_calls a0 a1 a2 a3 a4 a5 e E1 A c hs Am cm s l' k _ hc hcm (Kd.C_below HL.out HBa.out) (Kd.C_below HM.out HBa.out) (Glob.below HG.out HBa.out) HT0.out HTM.out HTE.out HSZ.out HS1.out HE1.out HE.out HL0.out HST.out).mono ?_); rintro en w8 ⟨A6, d6, vs6, rfl, hS6, hb⟩; have HS6 := Aside0.mk hS6; clear hS6; have HB8 := Aside0.mk (below_then HBa.out HBa.out.size hb); have HX8 := Aside0.mk (blk_below (blk_below HX.out (below_alloc (Below.refl _ _) _)) hb); have HY8 := Aside0.mk (blk_below (blk_below HY.out (below_alloc (Below.refl _ _) _)) hb); have lt3 : w.heap.size < w8.heap.size := lt_of_block HX8.out; have lt4 : w.heap.size + 1 < w8.heap.size := lt_of_block HY8.out; have c0 : w8.cell? ⟨w.heap.size + 1, 0, none⟩ = some (.int .u64 0) := (blk_cell HY8.out 0).trans rfl; have f0 : w8.frozen? ⟨w.heap.size + 1, 0, none⟩ = false := blk_frozen HY8.out 0; have c1 : w8.cell? ⟨w.heap.size + 1, 1, none⟩ = some (.int .u64 (e : Nat)) := (blk_cell HY8.out 1).trans rfl; have f1 : w8.frozen? ⟨w.heap.size + 1, 1, none⟩ = false := blk_frozen HY8.out 1; have c2 : w8.cell? ⟨w.heap.size + 1, 2, none⟩ = some (.slice A hs.length c) := (blk_cell HY8.out 2).trans rfl; have f2 : w8.frozen? ⟨w.heap.size + 1, 2, none⟩ = false := blk_frozen HY8.out 2; skip))
      have S1 : Aside0 ((w8.setCell ⟨w.heap.size + 1, 0, none⟩ (.int .u64 0)).heap[w.heap.size + 1]? = some (.cells #[.int .u64 0, .int .u64 (e : Nat), .slice A hs.length c] 35 (0, 0))) := ⟨blk_set HY8.out 0 _⟩
      have S2 : Aside0 (((w8.setCell ⟨w.heap.size + 1, 0, none⟩ (.int .u64 0)).setCell ⟨w.heap.size + 1, 1, none⟩ (.int .u64 (E1 : Nat))).heap[w.heap.size + 1]? = some (.cells #[.int .u64 0, .int .u64 (E1 : Nat), .slice A hs.length c] 35 (0, 0))) := ⟨blk_set S1.out 1 _⟩
      have S3 : Aside0 ((((w8.setCell ⟨w.heap.size + 1, 0, none⟩ (.int .u64 0)).setCell ⟨w.heap.size + 1, 1, none⟩ (.int .u64 (E1 : Nat))).setCell ⟨w.heap.size + 1, 2, none⟩ (.slice A6 l'.length d6)).heap[w.heap.size + 1]? = some (.cells #[.int .u64 0, .int .u64 (E1 : Nat), .slice A6 l'.length d6] 35 (0, 0))) := ⟨blk_set S2.out 2 _⟩
      have T6 := Kd.S_set (Kd.S_set (Kd.S_set HS6.out HY8.out (by decide) 0 (.int .u64 0)) S1.out (by decide) 1 (.int .u64 (E1 : Nat))) S2.out (by decide) 2 (.slice A6 l'.length d6)
      obtain ⟨A9, d9, e9, hd9, hC9⟩ := Kd.S_reads T6
      injection e9 with e9 _ e10
      subst e9 e10
      have hne : w.heap.size ≠ w.heap.size + 1 := by omega
      have HX9 : (((w8.setCell ⟨w.heap.size + 1, 0, none⟩ (.int .u64 0)).setCell ⟨w.heap.size + 1, 1, none⟩ (.int .u64 (E1 : Nat))).setCell ⟨w.heap.size + 1, 2, none⟩ (.slice A6 l'.length d6)).heap[w.heap.size]? = some (.cells #[.int .i64 a0, .int .i64 a1, .int .i64 a2, .int .u64 a3, .int .u64 a4, .int .u64 a5] 24 (0, 0)) := (Below.heap_setCell _ _ _ _ hne).trans ((Below.heap_setCell _ _ _ _ hne).trans ((Below.heap_setCell _ _ _ _ hne).trans HX8.out))
      have HB9 : Below w.heap.size w (((w8.setCell ⟨w.heap.size + 1, 0, none⟩ (.int .u64 0)).setCell ⟨w.heap.size + 1, 1, none⟩ (.int .u64 (E1 : Nat))).setCell ⟨w.heap.size + 1, 2, none⟩ (.slice A6 l'.length d6)) := Below.setCell (Below.setCell (Below.setCell HB8.out (Nat.le_succ _) _) (Nat.le_succ _) _) (Nat.le_succ _) _
      clear T6 f0 f1 f2 c0 c1 c2
      generalize (((w8.setCell ⟨w.heap.size + 1, 0, none⟩ (.int .u64 0)).setCell ⟨w.heap.size + 1, 1, none⟩ (.int .u64 (E1 : Nat))).setCell ⟨w.heap.size + 1, 2, none⟩ (.slice A6 l'.length d6)) = wz at S3 hC9 HX9 HB9 ⊢
      go_roundg 0
      case measure => omega
      case rel => exact ⟨1, by omega, by first | rfl | go_num, rfl, ⟨below_step HB9 (below_alloc (Below.refl _ _) _)⟩, ⟨blk_below HX9 (below_alloc (Below.refl _ _) _)⟩, ⟨.inr ⟨rfl, _, _, blk_below S3.out (below_alloc (Below.refl _ _) _), hd9, Kd.C_below hC9 (below_alloc (Below.refl _ _) _)⟩⟩⟩
    · clear HY
      have HY := Aside0.mk hy
      have HC6 := Aside0.mk hC6
      have HD6 := Aside0.mk hd6
      clear hy hC6 hd6
      obtain ⟨y0, y1, y2⟩ := box3 HY.out
      go_wp2_with (first
        | (go_at_call 21; (with_reducible refine (rootHash_calls a0 a1 a2 a3 a4 a5 E1 A6 d6 m l' r _ HMM.out HM2.out HD6.out HE.out (Glob.below HG.out HB.out) HRW.out HC6.out k HTE.out HSE.out HR.out).mono ?_); rintro en w7 ⟨A7, c7, v7, rfl, hl7, hC7, hb⟩; have HL7 := Aside0.mk hl7; have HC7 := Aside0.mk hC7; have HB7 := Aside0.mk (below_then HB.out HB.out.size hb); clear hl7 hC7 hb))
      first | go_ret2 | go_ret
      exact ⟨A7, c7, rfl, HL7.out, HC7.out, HB7.out⟩
end Go.Proofs.YtfhcpniibiobgaaDoor.Qr
