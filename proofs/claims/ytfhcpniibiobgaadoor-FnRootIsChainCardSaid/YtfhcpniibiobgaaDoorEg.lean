/- The law FnRootIsChain, walked (printed by gen_lawrc.py). -/
import Derived.Test.YtfhcpniibiobgaaDoorEe
import Derived.Test.YtfhcpniibiobgaaDoorEf
namespace Go.Proofs.YtfhcpniibiobgaaDoor.Qf
open Go.RowKit Go.Proofs.YtfhcpniibiobgaaDoorW.PrintWords Go.Proofs.YtfhcpniibiobgaaDoorW.PrintLast Go.Proofs.YtfhcpniibiobgaaDoorW.PrintMore
open Hs (CB CL at_L at_B infoB infoL R_of_blk bcell)
open Go.Proofs.YtfhcpniibiobgaaDoor.Pure (hcF hcF_len toyHC toyB chB)

theorem box6 {w : World} {g : Nat} {a0 a1 a2 a3 a4 a5 : Int} (h : w.heap[g]? = some (.cells #[.int .i64 a0, .int .i64 a1, .int .i64 a2, .int .u64 a3, .int .u64 a4, .int .u64 a5] 24 (0, 0))) : w.cell? ⟨g, 0, none⟩ = some (.int .i64 a0) ∧ w.cell? ⟨g, 1, none⟩ = some (.int .i64 a1) ∧ w.cell? ⟨g, 2, none⟩ = some (.int .i64 a2) ∧ w.cell? ⟨g, 3, none⟩ = some (.int .u64 a3) ∧ w.cell? ⟨g, 4, none⟩ = some (.int .u64 a4) ∧ w.cell? ⟨g, 5, none⟩ = some (.int .u64 a5) :=
  ⟨(blk_cell h 0).trans rfl, (blk_cell h 1).trans rfl, (blk_cell h 2).trans rfl, (blk_cell h 3).trans rfl, (blk_cell h 4).trans rfl, (blk_cell h 5).trans rfl⟩
theorem box3 {w : World} {g : Nat} {b e : Int} {A : Option Addr} {n c : Nat} (h : w.heap[g]? = some (.cells #[.int .u64 b, .int .u64 e, .slice A n c] 35 (0, 0))) : w.cell? ⟨g, 0, none⟩ = some (.int .u64 b) ∧ w.cell? ⟨g, 1, none⟩ = some (.int .u64 e) ∧ w.cell? ⟨g, 2, none⟩ = some (.slice A n c) :=
  ⟨(blk_cell h 0).trans rfl, (blk_cell h 1).trans rfl, (blk_cell h 2).trans rfl⟩
/-- A row of rows that lie in an elder world. -/
def kF (w0 : World) : Kd (List Int) where
  sz := 1
  E := []
  K := fun _ x cs => ∃ A c, cs = [.slice A x.length c] ∧ x.length ≤ c ∧ CB w0 A x
  M := fun _ _ _ x cs => ∃ A c, cs = [.slice A x.length c] ∧ x.length ≤ c ∧ CB w0 A x
  K_len := by
    rintro w x cs ⟨A, c, rfl, _⟩
    rfl
  K_one := by
    rintro w x cs ⟨A, c, rfl, _⟩ u hu
    rw [List.mem_singleton.1 hu]
    rfl
  K_below := fun _ h => h
  K_of_M := fun h => h
  M_mono := fun _ h => h
  M_bound := fun h => h
  M_move := fun _ h => h
  M_lower := fun _ h => h
theorem kF_reads {w0 W : World} {e base : Nat} {ok : Nat → Prop} {v : Value} {l : List (List Int)} (h : (kF w0).R e W base ok v l) (hb : Below w0.heap.size w0 W) : ∃ A c, v = .slice A l.length c ∧ l.length ≤ c ∧ CL W A l := by
  obtain ⟨A, c, h1, h2, h3⟩ := Kd.R_reads h
  exact ⟨A, c, h1, h2, ReadsRow.imp_ h3 (Below.refl _ _) fun _ _ ⟨A', c', e1, e2, e3⟩ => ⟨A', c', e1, e2, Kd.C_below e3 hb⟩⟩

set_option maxHeartbeats 2000000 in
set_option maxRecDepth 100000 in
theorem rc1 (K : Nat) (a0 a1 a2 a3 a4 a5 : Int) (b e : Nat) (A : Option Addr) (c : Nat) (hs : List (List Int)) (w : World) (hl : CL w A hs) (hc : hs.length ≤ c) (z : laws_zzFits7.f K (b : Int) (e : Int) hs = some false) :
    Calls Tryd.prog 4 #[.agg #[.int .i64 a0, .int .i64 a1, .int .i64 a2, .int .u64 a3, .int .u64 a4, .int .u64 a5], .agg #[.int .u64 (b : Int), .int .u64 (e : Int), .slice A hs.length c]] w fun en w' => en = .returned (.bool true) ∧ Below w.heap.size w w' := by
  have hl_ := Aside0.mk hl
  clear hl
  have HB : Aside0 (Below w.heap.size w ((w.alloc (.cells #[.int .i64 a0, .int .i64 a1, .int .i64 a2, .int .u64 a3, .int .u64 a4, .int .u64 a5] 24)).alloc (.cells #[.int .u64 (b : Int), .int .u64 (e : Int), .slice A hs.length c] 35))) := ⟨below_alloc (below_alloc (Below.refl _ _) _) _⟩
  have HX : Aside0 (((w.alloc (.cells #[.int .i64 a0, .int .i64 a1, .int .i64 a2, .int .u64 a3, .int .u64 a4, .int .u64 a5] 24)).alloc (.cells #[.int .u64 (b : Int), .int .u64 (e : Int), .slice A hs.length c] 35)).heap[w.heap.size]? = some (.cells #[.int .i64 a0, .int .i64 a1, .int .i64 a2, .int .u64 a3, .int .u64 a4, .int .u64 a5] 24 (0, 0))) := ⟨blk_below (heap_alloc_new w (.cells #[.int .i64 a0, .int .i64 a1, .int .i64 a2, .int .u64 a3, .int .u64 a4, .int .u64 a5] 24)) (below_alloc (Below.refl _ _) (.cells #[.int .u64 (b : Int), .int .u64 (e : Int), .slice A hs.length c] 35))⟩
  have HY : Aside0 (((w.alloc (.cells #[.int .i64 a0, .int .i64 a1, .int .i64 a2, .int .u64 a3, .int .u64 a4, .int .u64 a5] 24)).alloc (.cells #[.int .u64 (b : Int), .int .u64 (e : Int), .slice A hs.length c] 35)).heap[w.heap.size + 1]? = some (.cells #[.int .u64 (b : Int), .int .u64 (e : Int), .slice A hs.length c] 35 (0, 0))) := ⟨by
    have h1 := heap_alloc_new (w.alloc (.cells #[.int .i64 a0, .int .i64 a1, .int .i64 a2, .int .u64 a3, .int .u64 a4, .int .u64 a5] 24)) (.cells #[.int .u64 (b : Int), .int .u64 (e : Int), .slice A hs.length c] 35)
    simpa using h1⟩
  have Z := Aside0.mk z
  clear z
  go_enter Tryd.func4, Tryd.ntmps4
  go_wp2_with fail
  go_wp2_with (first
    | (go_at_call 19; (with_reducible refine (laws_zzFits7.calls K _ _ _ _ hs _ _ (Kd.C_below hl_.out HB.out) hc Z.out).mono ?_); rintro en w1 ⟨rfl, hb⟩; have HB1 := Aside0.mk (below_then HB.out HB.out.size hb); have HX1 := Aside0.mk (blk_below HX.out hb); have HY1 := Aside0.mk (blk_below HY.out hb); clear HB HX HY hb; have HB := HB1; have HX := HX1; have HY := HY1; clear HB1 HX1 HY1; (try clear hk0 hk1 hk2 hk3 hk4 hk5 hy0 hy1 hy2); obtain ⟨hk0, hk1, hk2, hk3, hk4, hk5⟩ := box6 HX.out; obtain ⟨hy0, hy1, hy2⟩ := box3 HY.out))
  go_ret
  exact ⟨rfl, HB.out⟩

set_option maxHeartbeats 2000000 in
set_option maxRecDepth 100000 in
theorem rc2 (K : Nat) (a0 a1 a2 a3 a4 a5 : Int) (b e : Nat) (A : Option Addr) (c : Nat) (hs : List (List Int)) (w : World) (hl : CL w A hs) (hc : hs.length ≤ c) (z : laws_zzFits7.f K (b : Int) (e : Int) hs = some true) (rf : laws_rangeFair.f K (b : Int) (e : Int) hs = some false) :
    Calls Tryd.prog 4 #[.agg #[.int .i64 a0, .int .i64 a1, .int .i64 a2, .int .u64 a3, .int .u64 a4, .int .u64 a5], .agg #[.int .u64 (b : Int), .int .u64 (e : Int), .slice A hs.length c]] w fun en w' => en = .returned (.bool true) ∧ Below w.heap.size w w' := by
  have hl_ := Aside0.mk hl
  clear hl
  have HB : Aside0 (Below w.heap.size w ((w.alloc (.cells #[.int .i64 a0, .int .i64 a1, .int .i64 a2, .int .u64 a3, .int .u64 a4, .int .u64 a5] 24)).alloc (.cells #[.int .u64 (b : Int), .int .u64 (e : Int), .slice A hs.length c] 35))) := ⟨below_alloc (below_alloc (Below.refl _ _) _) _⟩
  have HX : Aside0 (((w.alloc (.cells #[.int .i64 a0, .int .i64 a1, .int .i64 a2, .int .u64 a3, .int .u64 a4, .int .u64 a5] 24)).alloc (.cells #[.int .u64 (b : Int), .int .u64 (e : Int), .slice A hs.length c] 35)).heap[w.heap.size]? = some (.cells #[.int .i64 a0, .int .i64 a1, .int .i64 a2, .int .u64 a3, .int .u64 a4, .int .u64 a5] 24 (0, 0))) := ⟨blk_below (heap_alloc_new w (.cells #[.int .i64 a0, .int .i64 a1, .int .i64 a2, .int .u64 a3, .int .u64 a4, .int .u64 a5] 24)) (below_alloc (Below.refl _ _) (.cells #[.int .u64 (b : Int), .int .u64 (e : Int), .slice A hs.length c] 35))⟩
  have HY : Aside0 (((w.alloc (.cells #[.int .i64 a0, .int .i64 a1, .int .i64 a2, .int .u64 a3, .int .u64 a4, .int .u64 a5] 24)).alloc (.cells #[.int .u64 (b : Int), .int .u64 (e : Int), .slice A hs.length c] 35)).heap[w.heap.size + 1]? = some (.cells #[.int .u64 (b : Int), .int .u64 (e : Int), .slice A hs.length c] 35 (0, 0))) := ⟨by
    have h1 := heap_alloc_new (w.alloc (.cells #[.int .i64 a0, .int .i64 a1, .int .i64 a2, .int .u64 a3, .int .u64 a4, .int .u64 a5] 24)) (.cells #[.int .u64 (b : Int), .int .u64 (e : Int), .slice A hs.length c] 35)
    simpa using h1⟩
  have Z := Aside0.mk z
  clear z
  have RF := Aside0.mk rf
  clear rf
  go_enter Tryd.func4, Tryd.ntmps4
  go_wp2_with fail
  go_wp2_with (first
    | (go_at_call 19; (with_reducible refine (laws_zzFits7.calls K _ _ _ _ hs _ _ (Kd.C_below hl_.out HB.out) hc Z.out).mono ?_); rintro en w1 ⟨rfl, hb⟩; have HB1 := Aside0.mk (below_then HB.out HB.out.size hb); have HX1 := Aside0.mk (blk_below HX.out hb); have HY1 := Aside0.mk (blk_below HY.out hb); clear HB HX HY hb; have HB := HB1; have HX := HX1; have HY := HY1; clear HB1 HX1 HY1; (try clear hk0 hk1 hk2 hk3 hk4 hk5 hy0 hy1 hy2); obtain ⟨hk0, hk1, hk2, hk3, hk4, hk5⟩ := box6 HX.out; obtain ⟨hy0, hy1, hy2⟩ := box3 HY.out)
    | (go_at_call 20; (with_reducible refine (laws_rangeFair.calls K _ _ _ _ hs _ _ (Kd.C_below hl_.out HB.out) hc RF.out).mono ?_); rintro en w2 ⟨rfl, hb⟩; have HB1 := Aside0.mk (below_then HB.out HB.out.size hb); have HX1 := Aside0.mk (blk_below HX.out hb); have HY1 := Aside0.mk (blk_below HY.out hb); clear HB HX HY hb; have HB := HB1; have HX := HX1; have HY := HY1; clear HB1 HX1 HY1; (try clear hk0 hk1 hk2 hk3 hk4 hk5 hy0 hy1 hy2); obtain ⟨hk0, hk1, hk2, hk3, hk4, hk5⟩ := box6 HX.out; obtain ⟨hy0, hy1, hy2⟩ := box3 HY.out))
  go_ret
  exact ⟨rfl, HB.out⟩

set_option maxHeartbeats 2000000 in
set_option maxRecDepth 100000 in
theorem rc3 (K : Nat) (a0 a1 a2 a3 a4 a5 : Int) (b e : Nat) (A : Option Addr) (c : Nat) (hs : List (List Int)) (w : World) (hl : CL w A hs) (hc : hs.length ≤ c) (z : laws_zzFits7.f K (b : Int) (e : Int) hs = some true) (rf : laws_rangeFair.f K (b : Int) (e : Int) hs = some true) (hb : b ≠ 0) :
    Calls Tryd.prog 4 #[.agg #[.int .i64 a0, .int .i64 a1, .int .i64 a2, .int .u64 a3, .int .u64 a4, .int .u64 a5], .agg #[.int .u64 (b : Int), .int .u64 (e : Int), .slice A hs.length c]] w fun en w' => en = .returned (.bool true) ∧ Below w.heap.size w w' := by
  have hl_ := Aside0.mk hl
  clear hl
  have HB : Aside0 (Below w.heap.size w ((w.alloc (.cells #[.int .i64 a0, .int .i64 a1, .int .i64 a2, .int .u64 a3, .int .u64 a4, .int .u64 a5] 24)).alloc (.cells #[.int .u64 (b : Int), .int .u64 (e : Int), .slice A hs.length c] 35))) := ⟨below_alloc (below_alloc (Below.refl _ _) _) _⟩
  have HX : Aside0 (((w.alloc (.cells #[.int .i64 a0, .int .i64 a1, .int .i64 a2, .int .u64 a3, .int .u64 a4, .int .u64 a5] 24)).alloc (.cells #[.int .u64 (b : Int), .int .u64 (e : Int), .slice A hs.length c] 35)).heap[w.heap.size]? = some (.cells #[.int .i64 a0, .int .i64 a1, .int .i64 a2, .int .u64 a3, .int .u64 a4, .int .u64 a5] 24 (0, 0))) := ⟨blk_below (heap_alloc_new w (.cells #[.int .i64 a0, .int .i64 a1, .int .i64 a2, .int .u64 a3, .int .u64 a4, .int .u64 a5] 24)) (below_alloc (Below.refl _ _) (.cells #[.int .u64 (b : Int), .int .u64 (e : Int), .slice A hs.length c] 35))⟩
  have HY : Aside0 (((w.alloc (.cells #[.int .i64 a0, .int .i64 a1, .int .i64 a2, .int .u64 a3, .int .u64 a4, .int .u64 a5] 24)).alloc (.cells #[.int .u64 (b : Int), .int .u64 (e : Int), .slice A hs.length c] 35)).heap[w.heap.size + 1]? = some (.cells #[.int .u64 (b : Int), .int .u64 (e : Int), .slice A hs.length c] 35 (0, 0))) := ⟨by
    have h1 := heap_alloc_new (w.alloc (.cells #[.int .i64 a0, .int .i64 a1, .int .i64 a2, .int .u64 a3, .int .u64 a4, .int .u64 a5] 24)) (.cells #[.int .u64 (b : Int), .int .u64 (e : Int), .slice A hs.length c] 35)
    simpa using h1⟩
  have Z := Aside0.mk z
  clear z
  have RF := Aside0.mk rf
  clear rf
  have t1 : ((b : Int) != 0) = true := bne_iff_ne.2 (by omega)
  have t1n : (b != 0) = true := bne_iff_ne.2 (by omega)
  clear hb
  go_enter Tryd.func4, Tryd.ntmps4
  go_wp2_with fail
  go_wp2_with (first
    | (go_at_call 19; (with_reducible refine (laws_zzFits7.calls K _ _ _ _ hs _ _ (Kd.C_below hl_.out HB.out) hc Z.out).mono ?_); rintro en w1 ⟨rfl, hb⟩; have HB1 := Aside0.mk (below_then HB.out HB.out.size hb); have HX1 := Aside0.mk (blk_below HX.out hb); have HY1 := Aside0.mk (blk_below HY.out hb); clear HB HX HY hb; have HB := HB1; have HX := HX1; have HY := HY1; clear HB1 HX1 HY1; (try clear hk0 hk1 hk2 hk3 hk4 hk5 hy0 hy1 hy2); obtain ⟨hk0, hk1, hk2, hk3, hk4, hk5⟩ := box6 HX.out; obtain ⟨hy0, hy1, hy2⟩ := box3 HY.out)
    | (go_at_call 20; (with_reducible refine (laws_rangeFair.calls K _ _ _ _ hs _ _ (Kd.C_below hl_.out HB.out) hc RF.out).mono ?_); rintro en w2 ⟨rfl, hb⟩; have HB1 := Aside0.mk (below_then HB.out HB.out.size hb); have HX1 := Aside0.mk (blk_below HX.out hb); have HY1 := Aside0.mk (blk_below HY.out hb); clear HB HX HY hb; have HB := HB1; have HX := HX1; have HY := HY1; clear HB1 HX1 HY1; (try clear hk0 hk1 hk2 hk3 hk4 hk5 hy0 hy1 hy2); obtain ⟨hk0, hk1, hk2, hk3, hk4, hk5⟩ := box6 HX.out; obtain ⟨hy0, hy1, hy2⟩ := box3 HY.out))
  go_ret
  exact ⟨rfl, HB.out⟩

set_option maxHeartbeats 2000000 in
set_option maxRecDepth 100000 in
theorem rc4 (K : Nat) (a0 a1 a2 a3 a4 a5 : Int) (b e : Nat) (A : Option Addr) (c : Nat) (hs : List (List Int)) (w : World) (hl : CL w A hs) (hc : hs.length ≤ c) (z : laws_zzFits7.f K (b : Int) (e : Int) hs = some true) (rf : laws_rangeFair.f K (b : Int) (e : Int) hs = some true) (hb : b = 0) (he : e = 0) :
    Calls Tryd.prog 4 #[.agg #[.int .i64 a0, .int .i64 a1, .int .i64 a2, .int .u64 a3, .int .u64 a4, .int .u64 a5], .agg #[.int .u64 (b : Int), .int .u64 (e : Int), .slice A hs.length c]] w fun en w' => en = .returned (.bool true) ∧ Below w.heap.size w w' := by
  have hl_ := Aside0.mk hl
  clear hl
  have HB : Aside0 (Below w.heap.size w ((w.alloc (.cells #[.int .i64 a0, .int .i64 a1, .int .i64 a2, .int .u64 a3, .int .u64 a4, .int .u64 a5] 24)).alloc (.cells #[.int .u64 (b : Int), .int .u64 (e : Int), .slice A hs.length c] 35))) := ⟨below_alloc (below_alloc (Below.refl _ _) _) _⟩
  have HX : Aside0 (((w.alloc (.cells #[.int .i64 a0, .int .i64 a1, .int .i64 a2, .int .u64 a3, .int .u64 a4, .int .u64 a5] 24)).alloc (.cells #[.int .u64 (b : Int), .int .u64 (e : Int), .slice A hs.length c] 35)).heap[w.heap.size]? = some (.cells #[.int .i64 a0, .int .i64 a1, .int .i64 a2, .int .u64 a3, .int .u64 a4, .int .u64 a5] 24 (0, 0))) := ⟨blk_below (heap_alloc_new w (.cells #[.int .i64 a0, .int .i64 a1, .int .i64 a2, .int .u64 a3, .int .u64 a4, .int .u64 a5] 24)) (below_alloc (Below.refl _ _) (.cells #[.int .u64 (b : Int), .int .u64 (e : Int), .slice A hs.length c] 35))⟩
  have HY : Aside0 (((w.alloc (.cells #[.int .i64 a0, .int .i64 a1, .int .i64 a2, .int .u64 a3, .int .u64 a4, .int .u64 a5] 24)).alloc (.cells #[.int .u64 (b : Int), .int .u64 (e : Int), .slice A hs.length c] 35)).heap[w.heap.size + 1]? = some (.cells #[.int .u64 (b : Int), .int .u64 (e : Int), .slice A hs.length c] 35 (0, 0))) := ⟨by
    have h1 := heap_alloc_new (w.alloc (.cells #[.int .i64 a0, .int .i64 a1, .int .i64 a2, .int .u64 a3, .int .u64 a4, .int .u64 a5] 24)) (.cells #[.int .u64 (b : Int), .int .u64 (e : Int), .slice A hs.length c] 35)
    simpa using h1⟩
  have Z := Aside0.mk z
  clear z
  have RF := Aside0.mk rf
  clear rf
  have t1 : ((b : Int) != 0) = false := bne_eq_false_iff_eq.2 (by omega)
  have t1n : (b != 0) = false := bne_eq_false_iff_eq.2 (by omega)
  have t2 : ((e : Int) == 0) = true := beq_iff_eq.2 (by omega)
  have t2n : (e == 0) = true := beq_iff_eq.2 (by omega)
  clear hb he
  go_enter Tryd.func4, Tryd.ntmps4
  go_wp2_with fail
  go_wp2_with (first
    | (go_at_call 19; (with_reducible refine (laws_zzFits7.calls K _ _ _ _ hs _ _ (Kd.C_below hl_.out HB.out) hc Z.out).mono ?_); rintro en w1 ⟨rfl, hb⟩; have HB1 := Aside0.mk (below_then HB.out HB.out.size hb); have HX1 := Aside0.mk (blk_below HX.out hb); have HY1 := Aside0.mk (blk_below HY.out hb); clear HB HX HY hb; have HB := HB1; have HX := HX1; have HY := HY1; clear HB1 HX1 HY1; (try clear hk0 hk1 hk2 hk3 hk4 hk5 hy0 hy1 hy2); obtain ⟨hk0, hk1, hk2, hk3, hk4, hk5⟩ := box6 HX.out; obtain ⟨hy0, hy1, hy2⟩ := box3 HY.out)
    | (go_at_call 20; (with_reducible refine (laws_rangeFair.calls K _ _ _ _ hs _ _ (Kd.C_below hl_.out HB.out) hc RF.out).mono ?_); rintro en w2 ⟨rfl, hb⟩; have HB1 := Aside0.mk (below_then HB.out HB.out.size hb); have HX1 := Aside0.mk (blk_below HX.out hb); have HY1 := Aside0.mk (blk_below HY.out hb); clear HB HX HY hb; have HB := HB1; have HX := HX1; have HY := HY1; clear HB1 HX1 HY1; (try clear hk0 hk1 hk2 hk3 hk4 hk5 hy0 hy1 hy2); obtain ⟨hk0, hk1, hk2, hk3, hk4, hk5⟩ := box6 HX.out; obtain ⟨hy0, hy1, hy2⟩ := box3 HY.out))
  go_ret
  exact ⟨rfl, HB.out⟩

set_option maxHeartbeats 4000000 in
set_option maxRecDepth 100000 in
theorem rc5 (K : Nat) (a0 a1 a2 a3 a4 a5 : Int) (b e : Nat) (A : Option Addr) (c : Nat) (hs : List (List Int)) (w : World) (hl : CL w A hs) (hc : hs.length ≤ c) (m k : Nat) (hb : b = 0) (he : e ≠ 0) (he64 : e < 18446744073709551616) (hm : hs.length = m + 1) (hm2 : m ≤ 1000) (hrow : ∀ h ∈ hs, h.length ≤ 5000) (HG_ : Glob w) (htx : impl_texts.f k hs = some hs) (htx2 : impl_texts.f k (hs.take m).reverse = some (hs.take m).reverse) (hsz : compact_RangeSize.f ((0 : Nat) : Int) (e : Int) = some (hs.length : Int)) (z : laws_zzFits7.f K (b : Int) (e : Int) hs = some true) (rf : laws_rangeFair.f K (b : Int) (e : Int) hs = some true) :
    Calls Tryd.prog 4 #[.agg #[.int .i64 a0, .int .i64 a1, .int .i64 a2, .int .u64 a3, .int .u64 a4, .int .u64 a5], .agg #[.int .u64 (b : Int), .int .u64 (e : Int), .slice A hs.length c]] w fun en w' => en = .returned (.bool true) ∧ Below w.heap.size w w' := by
  have hgd : (hs.getD m []).length ≤ 5000 := by
    rw [List.getD_eq_getElem?_getD]
    rcases h : hs[m]? with _ | y
    · simp
    · exact hrow y (List.mem_of_getElem? h)
  obtain ⟨rr, hrr⟩ : ∃ rr, chB a0 a2 a5 (hs.take m).reverse (hs.getD m []) = rr := ⟨_, rfl⟩
  have hcb := (toyB a0 a1 a2 a3 a4 a5 (hs.take m).reverse (hs.getD m []) (fun h hh => hrow h (List.mem_of_mem_take (List.mem_reverse.1 hh))) (by rw [List.length_reverse, List.length_take]; omega))
  rw [hrr] at hcb
  have HCB := Aside0.mk hcb
  have HRR := Aside0.mk hrr
  clear hcb hrr
  have t1 : ((b : Int) != 0) = false := bne_eq_false_iff_eq.2 (by omega)
  have t1n : (b != 0) = false := bne_eq_false_iff_eq.2 (by omega)
  have t2 : ((e : Int) == 0) = false := beq_eq_false_iff_ne.2 (by omega)
  have t2n : (e == 0) = false := beq_eq_false_iff_ne.2 (by omega)
  have hl_ := Aside0.mk hl
  clear hl
  have HB : Aside0 (Below w.heap.size w ((w.alloc (.cells #[.int .i64 a0, .int .i64 a1, .int .i64 a2, .int .u64 a3, .int .u64 a4, .int .u64 a5] 24)).alloc (.cells #[.int .u64 (b : Int), .int .u64 (e : Int), .slice A hs.length c] 35))) := ⟨below_alloc (below_alloc (Below.refl _ _) _) _⟩
  have HX : Aside0 (((w.alloc (.cells #[.int .i64 a0, .int .i64 a1, .int .i64 a2, .int .u64 a3, .int .u64 a4, .int .u64 a5] 24)).alloc (.cells #[.int .u64 (b : Int), .int .u64 (e : Int), .slice A hs.length c] 35)).heap[w.heap.size]? = some (.cells #[.int .i64 a0, .int .i64 a1, .int .i64 a2, .int .u64 a3, .int .u64 a4, .int .u64 a5] 24 (0, 0))) := ⟨blk_below (heap_alloc_new w (.cells #[.int .i64 a0, .int .i64 a1, .int .i64 a2, .int .u64 a3, .int .u64 a4, .int .u64 a5] 24)) (below_alloc (Below.refl _ _) (.cells #[.int .u64 (b : Int), .int .u64 (e : Int), .slice A hs.length c] 35))⟩
  have HY : Aside0 (((w.alloc (.cells #[.int .i64 a0, .int .i64 a1, .int .i64 a2, .int .u64 a3, .int .u64 a4, .int .u64 a5] 24)).alloc (.cells #[.int .u64 (b : Int), .int .u64 (e : Int), .slice A hs.length c] 35)).heap[w.heap.size + 1]? = some (.cells #[.int .u64 (b : Int), .int .u64 (e : Int), .slice A hs.length c] 35 (0, 0))) := ⟨by
    have h1 := heap_alloc_new (w.alloc (.cells #[.int .i64 a0, .int .i64 a1, .int .i64 a2, .int .u64 a3, .int .u64 a4, .int .u64 a5] 24)) (.cells #[.int .u64 (b : Int), .int .u64 (e : Int), .slice A hs.length c] 35)
    simpa using h1⟩
  have Z := Aside0.mk z
  have RF := Aside0.mk rf
  have HG := Aside0.mk HG_
  have HTX := Aside0.mk htx
  have HTX2 := Aside0.mk htx2
  have HSZ := Aside0.mk hsz
  have HRW := Aside0.mk hrow
  have HM := Aside0.mk hm
  have HE := Aside0.mk he64
  have HB0 := Aside0.mk hb
  have HGD := Aside0.mk hgd
  have HM2 := Aside0.mk hm2
  have hw1 : ∀ z : Int, z = 1 → wrap64 ((hs.length : Int) - z) = (m : Int) := fun z hz => by rw [hz, w64_in _ (by omega)]; omega
  have hw2 : ∀ z : Int, z = 1 → wrap64 ((m : Int) - z) = (m : Int) - 1 := fun z hz => by rw [hz]; exact w64_in _ (by omega)
  clear z rf HG_ htx htx2 hsz hrow hm he64 hb he hgd hm2
  go_enter Tryd.func4, Tryd.ntmps4
  go_wp2_with fail
  go_wp2_with (first
    | (go_at_call 19; (with_reducible refine (laws_zzFits7.calls K _ _ _ _ hs _ _ (Kd.C_below hl_.out HB.out) hc Z.out).mono ?_); rintro en w1 ⟨rfl, hb⟩; have HB1 := Aside0.mk (below_then HB.out HB.out.size hb); have HX1 := Aside0.mk (blk_below HX.out hb); have HY1 := Aside0.mk (blk_below HY.out hb); clear HB HX HY hb; have HB := HB1; have HX := HX1; have HY := HY1; clear HB1 HX1 HY1; (try clear hk0 hk1 hk2 hk3 hk4 hk5 hy0 hy1 hy2); obtain ⟨hk0, hk1, hk2, hk3, hk4, hk5⟩ := box6 HX.out; obtain ⟨hy0, hy1, hy2⟩ := box3 HY.out)
    | (go_at_call 20; (with_reducible refine (laws_rangeFair.calls K _ _ _ _ hs _ _ (Kd.C_below hl_.out HB.out) hc RF.out).mono ?_); rintro en w2 ⟨rfl, hb⟩; have HB1 := Aside0.mk (below_then HB.out HB.out.size hb); have HX1 := Aside0.mk (blk_below HX.out hb); have HY1 := Aside0.mk (blk_below HY.out hb); clear HB HX HY hb; have HB := HB1; have HX := HX1; have HY := HY1; clear HB1 HX1 HY1; (try clear hk0 hk1 hk2 hk3 hk4 hk5 hy0 hy1 hy2); obtain ⟨hk0, hk1, hk2, hk3, hk4, hk5⟩ := box6 HX.out; obtain ⟨hy0, hy1, hy2⟩ := box3 HY.out))
  (try simp only [Act.put, List.setIfInBounds_toArray, List.set_cons_zero, List.set_cons_succ])
  go_loopg [6, 7] m (fun kq v6 v7 wr => ∃ (j : Nat), j = kq ∧ j ≤ m ∧ v7 = .int .i64 ((j : Int) - 1) ∧ Aside0 ((kF w2).R 28 wr w2.heap.size (fun _ => True) v6 ((hs.take m).drop j).reverse) ∧ Aside0 (Below w2.heap.size w2 wr))
  case atStart => exact ⟨m, rfl, Nat.le_refl _, by first | rfl | (rw [hw2 1 rfl]), ⟨by rw [List.drop_eq_nil_of_le (by rw [List.length_take]; omega)]; exact Kd.R_nil _ _ _ _ _⟩, ⟨Below.refl _ _⟩⟩
  case round =>
    clear hw1 hw2 hk0 hk1 hk2 hk3 hk4 hk5 hy0 hy1 hy2
    obtain ⟨j, hjk, hjm, rfl, HO, HBr⟩ := hrel
    have HJ := Aside0.mk hjk
    clear hjk
    rename World => wr
    have HB3 := Aside0.mk (below_then HB.out HB.out.size HBr.out)
    have HX3 := Aside0.mk (blk_below HX.out HBr.out)
    have HY3 := Aside0.mk (blk_below HY.out HBr.out)
    obtain ⟨hk0, hk1, hk2, hk3, hk4, hk5⟩ := box6 HX3.out
    obtain ⟨hy0, hy1, hy2⟩ := box3 HY3.out
    rcases j with _ | q
    · rw [show (((0 : Nat) : Int) - 1) = -1 by omega]
      have ho := HO.out
      rw [List.drop_zero] at ho
      obtain ⟨Ar, cr, rfl, hlr, hCr⟩ := kF_reads ho HBr.out
      have HCr := Aside0.mk hCr
      have HLr := Aside0.mk hlr
      clear ho hCr hlr HO HB HX HY
      have HB := HB3
      have HX := HX3
      have HY := HY3
      clear HB3 HX3 HY3
      have HLEN : Aside0 ((hs.take m).reverse.length ≤ 1000) := ⟨by rw [List.length_reverse, List.length_take]; have := HM2.out; omega⟩
      clear HJ
      generalize hrest : (hs.take m).reverse = rest at HCr HLr HLEN HTX2 HCB ⊢
      have HREST := Aside0.mk hrest
      clear hrest
      go_wp2_with (first
        | (go_at_call 21; rw [show (b : Int) = 0 by have := HB0.out; omega]; refine (rootHash_calls a0 a1 a2 a3 a4 a5 e A c m hs rr _ HM.out HM2.out hc HE.out (Glob.below HG.out HB.out) HRW.out (Kd.C_below hl_.out HB.out) k HTX.out HSZ.out HRR.out).mono ?_; rintro en w6 ⟨A6, c6, v6, rfl, hl6, hC6, hb⟩; have HC6 := Aside0.mk hC6; have HL6 := Aside0.mk hl6; have HCr := Aside0.mk (Kd.C_below HCr.out hb); clear hC6 hl6; have HB1 := Aside0.mk (below_then HB.out HB.out.size hb); have HX1 := Aside0.mk (blk_below HX.out hb); have HY1 := Aside0.mk (blk_below HY.out hb); clear HB HX HY hb; have HB := HB1; have HX := HX1; have HY := HY1; clear HB1 HX1 HY1; (try clear hk0 hk1 hk2 hk3 hk4 hk5 hy0 hy1 hy2); obtain ⟨hk0, hk1, hk2, hk3, hk4, hk5⟩ := box6 HX.out; obtain ⟨hy0, hy1, hy2⟩ := box3 HY.out))
      have hw1 : ∀ z : Int, z = 1 → wrap64 ((hs.length : Int) - z) = (m : Int) := fun z hz => by rw [hz, w64_in _ (by have := HM.out; have := HM2.out; omega)]; have := HM.out; omega
      rename World => w6
      have hml : m < hs.length := by have := HM.out; omega
      have q0 : (0 : Int) ≤ (m : Int) := by omega
      have q1 : (m : Int) < (hs.length : Int) := by omega
      obtain ⟨ad, Al, cl, ead, hx, hll, hCl⟩ := at_L (Kd.C_below hl_.out HB.out) m hml
      cases ead
      have HCl := Aside0.mk hCl
      have HLl := Aside0.mk hll
      clear hCl hll
      clear HRR
      generalize hs.getD m [] = s0 at hx HCl HLl HCB HGD
      have ST : Aside0 (spec_SameText.f rr rr = some true) := ⟨congrArg some BEq.rfl⟩
      go_region_held3 (fun w' => w'.cell? ⟨w.heap.size, 0, none⟩ = some (.int .i64 a0) ∧ w'.cell? ⟨w.heap.size, 1, none⟩ = some (.int .i64 a1) ∧ w'.cell? ⟨w.heap.size, 2, none⟩ = some (.int .i64 a2) ∧ w'.cell? ⟨w.heap.size, 3, none⟩ = some (.int .u64 a3) ∧ w'.cell? ⟨w.heap.size, 4, none⟩ = some (.int .u64 a4) ∧ w'.cell? ⟨w.heap.size, 5, none⟩ = some (.int .u64 a5) ∧ w'.cell? ⟨w.heap.size + 1, 2, none⟩ = some (.slice (some ad) hs.length c) ∧ w'.cell? (ad.add m) = some (.slice Al s0.length cl) ∧ Below w6.heap.size w6 w')
        (((try dsimp only); (try go_split_ands); (repeat' apply And.intro) <;> first | (go_keep; done) | exact below_drew (Below.refl _ _) | (refine pw_cell_below hb ?_; assumption) | (refine below_then ?_ ?_ hb; assumption; exact Below.size (by assumption))))
        (first
          | (go_at_call 22; have hB0 := Aside0.mk (show Below w6.heap.size w6 _ by go_split_ands; assumption); refine (chainBorderI_calls a0 a1 a2 a3 a4 a5 Al cl s0 Ar cr rest _ _ (Kd.C_below HCl.out hB0.out) (Kd.C_below HCr.out hB0.out) HLr.out (by have := HGD.out; omega) (by have := HLEN.out; omega) k HTX2.out HCB.out).mono ?_; rintro en w7 ⟨A7, c7, rfl, hl7, hC7, hb⟩)
          | (go_at_call 17; refine (spec_SameText.calls A6 c6 rr A7 c7 rr true _ (Kd.C_below HC6.out (by go_split_ands; assumption)) HL6.out (by first | exact hC7 | exact Kd.C_below hC7 (below_drew (Below.refl _ _))) hl7 ST.out).mono ?_; rintro en w8 ⟨rfl, hd⟩; have hb := hd.below))
      go_wp2
      go_ret
      go_split_ands
      have hb8 : Below w6.heap.size w6 w8 := by assumption
      exact ⟨rfl, below_then HB.out HB.out.size hb8⟩
    · rw [show (((q + 1 : Nat) : Int) - 1) = (q : Int) by omega]
      have HQM : Aside0 (q ≤ m) := ⟨by omega⟩
      have hql : q < hs.length := by have := HM.out; omega
      have q0 : (0 : Int) ≤ (q : Int) := by omega
      have q1 : (q : Int) < (hs.length : Int) := by omega
      have q2 : decide ((0 : Int) ≤ (q : Int)) = true := decide_eq_true q0
      have hw3 : ∀ z : Int, z = 1 → wrap64 ((q : Int) - z) = (q : Int) - 1 := fun z hz => by rw [hz]; exact w64_in _ (by have := HM2.out; omega)
      obtain ⟨ad, Ah, ch, ead, hx, hlh, hCh⟩ := at_L (Kd.C_below hl_.out HB.out) q hql
      cases ead
      have hx := pw_cell_below HBr.out hx
      have hsn : ((hs.take m).drop q).reverse = ((hs.take m).drop (q + 1)).reverse ++ [hs.getD q []] := by
        have hqt : q < (hs.take m).length := by rw [List.length_take]; omega
        rw [List.drop_eq_getElem_cons hqt, List.reverse_cons, List.getElem_take, List.getD_eq_getElem?_getD, List.getElem?_eq_getElem hql]
        rfl
      have hxl : ((hs.take m).drop (q + 1)).reverse.length ≤ 1000 := by rw [List.length_reverse, List.length_drop, List.length_take]; have := HM2.out; omega
      have HSN := Aside0.mk hsn
      generalize hs.getD q [] = hsh at hx hlh hCh HSN
      have HCh := Aside0.mk hCh
      have HLh := Aside0.mk hlh
      have HXL := Aside0.mk hxl
      clear hCh hlh hsn hxl
      generalize ((hs.take m).drop (q + 1)).reverse = xs at HO HSN HXL
      go_wp2_with (first
        | ((with_reducible refine gate_builtin (b := .append) (xs := #[.tmp 37, .tmp 43]) rfl ?_); at_builtin; refine Kd.R_append (kF w2) (w0 := w2) w2.heap.size rfl (.tmp 37) (.tmp 43) 25 28 (.slice none 0 0) 24 rfl Tryd.underlying25 infoL rfl Nat.zero_lt_one (by omega) _ xs hsh [.slice Ah hsh.length ch] (fun _ => True) (fun _ => False) rfl rfl ⟨Ah, ch, rfl, HLh.out, HCh.out⟩ (fun _ h => h.elim) (fun _ _ => trivial) HO.out HBr.out (below_size HBr.out) (by have := HXL.out; omega) ?_; intro v8 w8 ho hb hg hat; have HO8 := Aside0.mk ho; have HB8 := Aside0.mk hb; clear ho hb hg hat))
      go_roundg q
      case measure => have := HJ.out; omega
      case rel => exact ⟨q, rfl, HQM.out, by first | rfl | rw [hw3 1 rfl], ⟨by rw [HSN.out]; exact HO8.out⟩, HB8⟩
end Go.Proofs.YtfhcpniibiobgaaDoor.Qf
