/- The law FnLastLeaf, walked (printed by gen_lawll.py). -/
import Derived.Test.YtfhcpniibiobgaaDoorTc
import Derived.Test.YtfhcpniibiobgaaDoorVz
namespace Go.Proofs.YtfhcpniibiobgaaDoor.Qr
open Go.Proofs.YtfhcpniibiobgaaDoor.Qf
open Go.RowKit Go.Proofs.YtfhcpniibiobgaaDoorW.PrintWords Go.Proofs.YtfhcpniibiobgaaDoorW.PrintLast Go.Proofs.YtfhcpniibiobgaaDoorW.PrintMore
open Hs (CB CL at_L at_B infoB infoL R_of_blk)
open Go.Proofs.YtfhcpniibiobgaaDoor.Pure (hcF chB)

/-- A row of rows that lie in an elder world. -/
def kF (w0 : World) : Kd (List Int) where
  sz := 1
  E := []
  K := fun _ x cs => ∃ A c, cs = [.slice A x.length c] ∧ x.length ≤ c ∧ CB w0 A x
  M := fun _ _ _ x cs => ∃ A c, cs = [.slice A x.length c] ∧ x.length ≤ c ∧ CB w0 A x
  K_len := by
    rintro w x cs ⟨A, c, rfl, _⟩
    rfl
  K_one := by
    rintro w x cs ⟨A, c, rfl, _⟩ u hu
    rw [List.mem_singleton.1 hu]
    rfl
  K_below := fun _ h => h
  K_of_M := fun h => h
  M_mono := fun _ h => h
  M_bound := fun h => h
  M_move := fun _ h => h
  M_lower := fun _ h => h
theorem kF_reads {w0 W : World} {e base : Nat} {ok : Nat → Prop} {v : Value} {l : List (List Int)} (h : (kF w0).R e W base ok v l) (hb : Below w0.heap.size w0 W) : ∃ A c, v = .slice A l.length c ∧ l.length ≤ c ∧ CL W A l := by
  obtain ⟨A, c, h1, h2, h3⟩ := Kd.R_reads h
  exact ⟨A, c, h1, h2, ReadsRow.imp_ h3 (Below.refl _ _) fun _ _ ⟨A', c', e1, e2, e3⟩ => ⟨A', c', e1, e2, Kd.C_below e3 hb⟩⟩
/-- A row of one range. -/
theorem c35 {W : World} {g : Nat} {b e : Int} {A : Option Addr} {c : Nat} {hs : List (List Int)} (h : W.heap[g]? = some (.cells #[.int .u64 b, .int .u64 e, .slice A hs.length c] 35 (0, 0))) (hc : hs.length ≤ c) (hC : CL W A hs) : Kd.C k35 W (some ⟨g, 0, none⟩) 1 [⟨b, e, hs⟩] := by
  refine ⟨rfl, by simp, fun _ => ⟨⟨g, 0, none⟩, rfl, fun j q hj => ?_⟩⟩
  rcases j with _ | j
  · obtain rfl : (⟨b, e, hs⟩ : S35) = q := by simpa using hj
    refine ⟨_, rfl, k35_mk W ⟨b, e, hs⟩ hc hC, fun i u hu => ?_⟩
    rcases i with _ | _ | _ | i
    · obtain rfl := Option.some.inj hu
      exact (blk_cell h 0).trans rfl
    · obtain rfl := Option.some.inj hu
      exact (blk_cell h 1).trans rfl
    · obtain rfl := Option.some.inj hu
      exact (blk_cell h 2).trans rfl
    · simp at hu
  · simp at hj
/-- A row of one row of bytes. -/
theorem cl_one {W : World} {g : Nat} {A : Option Addr} {c : Nat} {s : List Int} (h : W.heap[g]? = some (.cells #[.slice A s.length c] 28 (0, 0))) (hc : s.length ≤ c) (hC : CB W A s) : CL W (some ⟨g, 0, none⟩) [s] := by
  refine ⟨rfl, by simp, fun _ => ⟨⟨g, 0, none⟩, rfl, fun j q hj => ?_⟩⟩
  rcases j with _ | j
  · obtain rfl : s = q := by simpa using hj
    refine ⟨_, rfl, ⟨A, c, rfl, hc, hC⟩, fun i u hu => ?_⟩
    rcases i with _ | i
    · obtain rfl := Option.some.inj hu
      exact (blk_cell h 0).trans rfl
    · simp at hu
  · simp at hj
theorem leaf0_calls (x E1 : Nat) (h : x + 1 = E1) (hE : E1 < 18446744073709551616) (A1 : Option Addr) (n1 c1 : Nat) (w : World) :
    Calls Tryd.prog 41 #[.int .u64 (x : Nat), .slice A1 n1 c1] w fun en w' => ∃ g, en = .returned (.agg #[.int .u64 (x : Nat), .int .u64 (E1 : Nat), .slice (some ⟨g, 0, none⟩) 1 1]) ∧ w.heap.size ≤ g ∧ w'.heap[g]? = some (.cells #[.slice A1 n1 c1] 28 (0, 0)) ∧ Below w.heap.size w w' := by
  have hw : IntKind.u64.wrap ((x : Int) + 1) = (E1 : Int) := by
    show ((x : Int) + 1) % 18446744073709551616 = _
    omega
  have hl := leaf_calls (x : Int) A1 n1 c1 w
  rwa [hw] at hl

set_option maxHeartbeats 2000000 in
set_option maxRecDepth 100000 in
theorem ll1 (K : Nat) (a0 a1 a2 a3 a4 a5 : Int) (b : Nat) (e : Nat) (A : Option Addr) (c : Nat) (hs : List (List Int)) (A1 : Option Addr) (c1 : Nat) (s : List Int) (w : World) (hl : CL w A hs) (hc : hs.length ≤ c) (hl1 : CB w A1 s) (hc1 : s.length ≤ c1) (z : laws_zzFits7.f K (b : Int) (e : Int) hs = some false) :
    Calls Tryd.prog 11 #[.agg #[.int .i64 a0, .int .i64 a1, .int .i64 a2, .int .u64 a3, .int .u64 a4, .int .u64 a5], .agg #[.int .u64 (b : Nat), .int .u64 (e : Nat), .slice A hs.length c], .slice A1 s.length c1] w fun en w' => en = .returned (.bool true) ∧ Below w.heap.size w w' := by
  have _ := hc1
  have _ := hl1
  have hl_ := Aside0.mk hl
  have hl1_ := Aside0.mk hl1
  clear hl hl1
  have HB : Aside0 (Below w.heap.size w ((w.alloc (.cells #[.int .i64 a0, .int .i64 a1, .int .i64 a2, .int .u64 a3, .int .u64 a4, .int .u64 a5] 24)).alloc (.cells #[.int .u64 (b : Nat), .int .u64 (e : Nat), .slice A hs.length c] 35))) := ⟨below_alloc (below_alloc (Below.refl _ _) _) _⟩
  have HX : Aside0 (((w.alloc (.cells #[.int .i64 a0, .int .i64 a1, .int .i64 a2, .int .u64 a3, .int .u64 a4, .int .u64 a5] 24)).alloc (.cells #[.int .u64 (b : Nat), .int .u64 (e : Nat), .slice A hs.length c] 35)).heap[w.heap.size]? = some (.cells #[.int .i64 a0, .int .i64 a1, .int .i64 a2, .int .u64 a3, .int .u64 a4, .int .u64 a5] 24 (0, 0))) := ⟨blk_below (heap_alloc_new w (.cells #[.int .i64 a0, .int .i64 a1, .int .i64 a2, .int .u64 a3, .int .u64 a4, .int .u64 a5] 24)) (below_alloc (Below.refl _ _) (.cells #[.int .u64 (b : Nat), .int .u64 (e : Nat), .slice A hs.length c] 35))⟩
  have HY : Aside0 (((w.alloc (.cells #[.int .i64 a0, .int .i64 a1, .int .i64 a2, .int .u64 a3, .int .u64 a4, .int .u64 a5] 24)).alloc (.cells #[.int .u64 (b : Nat), .int .u64 (e : Nat), .slice A hs.length c] 35)).heap[w.heap.size + 1]? = some (.cells #[.int .u64 (b : Nat), .int .u64 (e : Nat), .slice A hs.length c] 35 (0, 0))) := ⟨by
    have h1 := heap_alloc_new (w.alloc (.cells #[.int .i64 a0, .int .i64 a1, .int .i64 a2, .int .u64 a3, .int .u64 a4, .int .u64 a5] 24)) (.cells #[.int .u64 (b : Nat), .int .u64 (e : Nat), .slice A hs.length c] 35)
    simpa using h1⟩
  have Z := Aside0.mk z
  clear z
  go_enter Tryd.func11, Tryd.ntmps11
  go_wp2_with fail
  go_wp2_with (first
    | (go_at_call 19; (with_reducible refine (laws_zzFits7.calls K _ _ A c hs _ _ (Kd.C_below hl_.out HB.out) hc Z.out).mono ?_); rintro en w1 ⟨rfl, hd⟩; (first | have hb := hd.below | have hb := hd); clear hd; have HB1 := Aside0.mk (below_then HB.out HB.out.size hb); have HX1 := Aside0.mk (blk_below HX.out hb); have HY1 := Aside0.mk (blk_below HY.out hb); clear HB HX HY hb; have HB := HB1; have HX := HX1; have HY := HY1; clear HB1 HX1 HY1; (try clear hk0 hk1 hk2 hk3 hk4 hk5 hy0 hy1 hy2); obtain ⟨hk0, hk1, hk2, hk3, hk4, hk5⟩ := box6 HX.out; obtain ⟨hy0, hy1, hy2⟩ := box3 HY.out; have lt1 : w.heap.size < w1.heap.size := lt_of_block HX.out; have lt2 : w.heap.size + 1 < w1.heap.size := lt_of_block HY.out))
  go_ret
  exact ⟨rfl, HB.out⟩

set_option maxHeartbeats 2000000 in
set_option maxRecDepth 100000 in
theorem ll2 (K : Nat) (a0 a1 a2 a3 a4 a5 : Int) (b : Nat) (e : Nat) (A : Option Addr) (c : Nat) (hs : List (List Int)) (A1 : Option Addr) (c1 : Nat) (s : List Int) (w : World) (hl : CL w A hs) (hc : hs.length ≤ c) (hl1 : CB w A1 s) (hc1 : s.length ≤ c1) (z : laws_zzFits7.f K (b : Int) (e : Int) hs = some true) (hbig : 2147483647 < s.length) :
    Calls Tryd.prog 11 #[.agg #[.int .i64 a0, .int .i64 a1, .int .i64 a2, .int .u64 a3, .int .u64 a4, .int .u64 a5], .agg #[.int .u64 (b : Nat), .int .u64 (e : Nat), .slice A hs.length c], .slice A1 s.length c1] w fun en w' => en = .returned (.bool true) ∧ Below w.heap.size w w' := by
  have _ := hc1
  have _ := hl1
  have hl_ := Aside0.mk hl
  have hl1_ := Aside0.mk hl1
  clear hl hl1
  have HB : Aside0 (Below w.heap.size w ((w.alloc (.cells #[.int .i64 a0, .int .i64 a1, .int .i64 a2, .int .u64 a3, .int .u64 a4, .int .u64 a5] 24)).alloc (.cells #[.int .u64 (b : Nat), .int .u64 (e : Nat), .slice A hs.length c] 35))) := ⟨below_alloc (below_alloc (Below.refl _ _) _) _⟩
  have HX : Aside0 (((w.alloc (.cells #[.int .i64 a0, .int .i64 a1, .int .i64 a2, .int .u64 a3, .int .u64 a4, .int .u64 a5] 24)).alloc (.cells #[.int .u64 (b : Nat), .int .u64 (e : Nat), .slice A hs.length c] 35)).heap[w.heap.size]? = some (.cells #[.int .i64 a0, .int .i64 a1, .int .i64 a2, .int .u64 a3, .int .u64 a4, .int .u64 a5] 24 (0, 0))) := ⟨blk_below (heap_alloc_new w (.cells #[.int .i64 a0, .int .i64 a1, .int .i64 a2, .int .u64 a3, .int .u64 a4, .int .u64 a5] 24)) (below_alloc (Below.refl _ _) (.cells #[.int .u64 (b : Nat), .int .u64 (e : Nat), .slice A hs.length c] 35))⟩
  have HY : Aside0 (((w.alloc (.cells #[.int .i64 a0, .int .i64 a1, .int .i64 a2, .int .u64 a3, .int .u64 a4, .int .u64 a5] 24)).alloc (.cells #[.int .u64 (b : Nat), .int .u64 (e : Nat), .slice A hs.length c] 35)).heap[w.heap.size + 1]? = some (.cells #[.int .u64 (b : Nat), .int .u64 (e : Nat), .slice A hs.length c] 35 (0, 0))) := ⟨by
    have h1 := heap_alloc_new (w.alloc (.cells #[.int .i64 a0, .int .i64 a1, .int .i64 a2, .int .u64 a3, .int .u64 a4, .int .u64 a5] 24)) (.cells #[.int .u64 (b : Nat), .int .u64 (e : Nat), .slice A hs.length c] 35)
    simpa using h1⟩
  have Z := Aside0.mk z
  clear z
  have t1 : decide ((2147483647 : Int) < (s.length : Int)) = true := decide_eq_true (by omega)
  have t1n : decide (2147483647 < s.length) = true := decide_eq_true (by omega)
  clear hbig
  go_enter Tryd.func11, Tryd.ntmps11
  go_wp2_with fail
  go_wp2_with (first
    | (go_at_call 19; (with_reducible refine (laws_zzFits7.calls K _ _ A c hs _ _ (Kd.C_below hl_.out HB.out) hc Z.out).mono ?_); rintro en w1 ⟨rfl, hd⟩; (first | have hb := hd.below | have hb := hd); clear hd; have HB1 := Aside0.mk (below_then HB.out HB.out.size hb); have HX1 := Aside0.mk (blk_below HX.out hb); have HY1 := Aside0.mk (blk_below HY.out hb); clear HB HX HY hb; have HB := HB1; have HX := HX1; have HY := HY1; clear HB1 HX1 HY1; (try clear hk0 hk1 hk2 hk3 hk4 hk5 hy0 hy1 hy2); obtain ⟨hk0, hk1, hk2, hk3, hk4, hk5⟩ := box6 HX.out; obtain ⟨hy0, hy1, hy2⟩ := box3 HY.out; have lt1 : w.heap.size < w1.heap.size := lt_of_block HX.out; have lt2 : w.heap.size + 1 < w1.heap.size := lt_of_block HY.out))
  go_ret
  exact ⟨rfl, HB.out⟩

set_option maxHeartbeats 2000000 in
set_option maxRecDepth 100000 in
theorem ll3 (K : Nat) (a0 a1 a2 a3 a4 a5 : Int) (b : Nat) (e : Nat) (A : Option Addr) (c : Nat) (hs : List (List Int)) (A1 : Option Addr) (c1 : Nat) (s : List Int) (w : World) (hl : CL w A hs) (hc : hs.length ≤ c) (hl1 : CB w A1 s) (hc1 : s.length ≤ c1) (z : laws_zzFits7.f K (b : Int) (e : Int) hs = some true) (hbig : s.length ≤ 2147483647) (hne : (s.length : Int) ≠ a1) :
    Calls Tryd.prog 11 #[.agg #[.int .i64 a0, .int .i64 a1, .int .i64 a2, .int .u64 a3, .int .u64 a4, .int .u64 a5], .agg #[.int .u64 (b : Nat), .int .u64 (e : Nat), .slice A hs.length c], .slice A1 s.length c1] w fun en w' => en = .returned (.bool true) ∧ Below w.heap.size w w' := by
  have _ := hc1
  have _ := hl1
  have hl_ := Aside0.mk hl
  have hl1_ := Aside0.mk hl1
  clear hl hl1
  have HB : Aside0 (Below w.heap.size w ((w.alloc (.cells #[.int .i64 a0, .int .i64 a1, .int .i64 a2, .int .u64 a3, .int .u64 a4, .int .u64 a5] 24)).alloc (.cells #[.int .u64 (b : Nat), .int .u64 (e : Nat), .slice A hs.length c] 35))) := ⟨below_alloc (below_alloc (Below.refl _ _) _) _⟩
  have HX : Aside0 (((w.alloc (.cells #[.int .i64 a0, .int .i64 a1, .int .i64 a2, .int .u64 a3, .int .u64 a4, .int .u64 a5] 24)).alloc (.cells #[.int .u64 (b : Nat), .int .u64 (e : Nat), .slice A hs.length c] 35)).heap[w.heap.size]? = some (.cells #[.int .i64 a0, .int .i64 a1, .int .i64 a2, .int .u64 a3, .int .u64 a4, .int .u64 a5] 24 (0, 0))) := ⟨blk_below (heap_alloc_new w (.cells #[.int .i64 a0, .int .i64 a1, .int .i64 a2, .int .u64 a3, .int .u64 a4, .int .u64 a5] 24)) (below_alloc (Below.refl _ _) (.cells #[.int .u64 (b : Nat), .int .u64 (e : Nat), .slice A hs.length c] 35))⟩
  have HY : Aside0 (((w.alloc (.cells #[.int .i64 a0, .int .i64 a1, .int .i64 a2, .int .u64 a3, .int .u64 a4, .int .u64 a5] 24)).alloc (.cells #[.int .u64 (b : Nat), .int .u64 (e : Nat), .slice A hs.length c] 35)).heap[w.heap.size + 1]? = some (.cells #[.int .u64 (b : Nat), .int .u64 (e : Nat), .slice A hs.length c] 35 (0, 0))) := ⟨by
    have h1 := heap_alloc_new (w.alloc (.cells #[.int .i64 a0, .int .i64 a1, .int .i64 a2, .int .u64 a3, .int .u64 a4, .int .u64 a5] 24)) (.cells #[.int .u64 (b : Nat), .int .u64 (e : Nat), .slice A hs.length c] 35)
    simpa using h1⟩
  have Z := Aside0.mk z
  clear z
  have t1 : decide ((2147483647 : Int) < (s.length : Int)) = false := decide_eq_false (by omega)
  have t1n : decide (2147483647 < s.length) = false := decide_eq_false (by omega)
  clear hbig
  have t2 : ((s.length : Int) != a1) = true := bne_iff_ne.2 hne
  clear hne
  go_enter Tryd.func11, Tryd.ntmps11
  go_wp2_with fail
  go_wp2_with (first
    | (go_at_call 19; (with_reducible refine (laws_zzFits7.calls K _ _ A c hs _ _ (Kd.C_below hl_.out HB.out) hc Z.out).mono ?_); rintro en w1 ⟨rfl, hd⟩; (first | have hb := hd.below | have hb := hd); clear hd; have HB1 := Aside0.mk (below_then HB.out HB.out.size hb); have HX1 := Aside0.mk (blk_below HX.out hb); have HY1 := Aside0.mk (blk_below HY.out hb); clear HB HX HY hb; have HB := HB1; have HX := HX1; have HY := HY1; clear HB1 HX1 HY1; (try clear hk0 hk1 hk2 hk3 hk4 hk5 hy0 hy1 hy2); obtain ⟨hk0, hk1, hk2, hk3, hk4, hk5⟩ := box6 HX.out; obtain ⟨hy0, hy1, hy2⟩ := box3 HY.out; have lt1 : w.heap.size < w1.heap.size := lt_of_block HX.out; have lt2 : w.heap.size + 1 < w1.heap.size := lt_of_block HY.out))
  go_ret
  exact ⟨rfl, HB.out⟩

set_option maxHeartbeats 2000000 in
set_option maxRecDepth 100000 in
theorem ll4 (K : Nat) (a0 a1 a2 a3 a4 a5 : Int) (b : Nat) (e : Nat) (A : Option Addr) (c : Nat) (hs : List (List Int)) (A1 : Option Addr) (c1 : Nat) (s : List Int) (w : World) (hl : CL w A hs) (hc : hs.length ≤ c) (hl1 : CB w A1 s) (hc1 : s.length ≤ c1) (z : laws_zzFits7.f K (b : Int) (e : Int) hs = some true) (hbig : s.length ≤ 2147483647) (hne : (s.length : Int) = a1) (he : e = 18446744073709551615) :
    Calls Tryd.prog 11 #[.agg #[.int .i64 a0, .int .i64 a1, .int .i64 a2, .int .u64 a3, .int .u64 a4, .int .u64 a5], .agg #[.int .u64 (b : Nat), .int .u64 (e : Nat), .slice A hs.length c], .slice A1 s.length c1] w fun en w' => en = .returned (.bool true) ∧ Below w.heap.size w w' := by
  have _ := hc1
  have _ := hl1
  have hl_ := Aside0.mk hl
  have hl1_ := Aside0.mk hl1
  clear hl hl1
  have HB : Aside0 (Below w.heap.size w ((w.alloc (.cells #[.int .i64 a0, .int .i64 a1, .int .i64 a2, .int .u64 a3, .int .u64 a4, .int .u64 a5] 24)).alloc (.cells #[.int .u64 (b : Nat), .int .u64 (e : Nat), .slice A hs.length c] 35))) := ⟨below_alloc (below_alloc (Below.refl _ _) _) _⟩
  have HX : Aside0 (((w.alloc (.cells #[.int .i64 a0, .int .i64 a1, .int .i64 a2, .int .u64 a3, .int .u64 a4, .int .u64 a5] 24)).alloc (.cells #[.int .u64 (b : Nat), .int .u64 (e : Nat), .slice A hs.length c] 35)).heap[w.heap.size]? = some (.cells #[.int .i64 a0, .int .i64 a1, .int .i64 a2, .int .u64 a3, .int .u64 a4, .int .u64 a5] 24 (0, 0))) := ⟨blk_below (heap_alloc_new w (.cells #[.int .i64 a0, .int .i64 a1, .int .i64 a2, .int .u64 a3, .int .u64 a4, .int .u64 a5] 24)) (below_alloc (Below.refl _ _) (.cells #[.int .u64 (b : Nat), .int .u64 (e : Nat), .slice A hs.length c] 35))⟩
  have HY : Aside0 (((w.alloc (.cells #[.int .i64 a0, .int .i64 a1, .int .i64 a2, .int .u64 a3, .int .u64 a4, .int .u64 a5] 24)).alloc (.cells #[.int .u64 (b : Nat), .int .u64 (e : Nat), .slice A hs.length c] 35)).heap[w.heap.size + 1]? = some (.cells #[.int .u64 (b : Nat), .int .u64 (e : Nat), .slice A hs.length c] 35 (0, 0))) := ⟨by
    have h1 := heap_alloc_new (w.alloc (.cells #[.int .i64 a0, .int .i64 a1, .int .i64 a2, .int .u64 a3, .int .u64 a4, .int .u64 a5] 24)) (.cells #[.int .u64 (b : Nat), .int .u64 (e : Nat), .slice A hs.length c] 35)
    simpa using h1⟩
  have Z := Aside0.mk z
  clear z
  have t1 : decide ((2147483647 : Int) < (s.length : Int)) = false := decide_eq_false (by omega)
  have t1n : decide (2147483647 < s.length) = false := decide_eq_false (by omega)
  clear hbig
  have t2 : ((s.length : Int) != a1) = false := bne_eq_false_iff_eq.2 hne
  clear hne
  have hw : ∀ z : Int, z = 1 → IntKind.u64.wrap ((e : Int) + z) = 0 := fun z hz => by
    rw [hz, he]
    rfl
  clear he
  go_enter Tryd.func11, Tryd.ntmps11
  go_wp2_with fail
  go_wp2_with (first
    | (go_at_call 19; (with_reducible refine (laws_zzFits7.calls K _ _ A c hs _ _ (Kd.C_below hl_.out HB.out) hc Z.out).mono ?_); rintro en w1 ⟨rfl, hd⟩; (first | have hb := hd.below | have hb := hd); clear hd; have HB1 := Aside0.mk (below_then HB.out HB.out.size hb); have HX1 := Aside0.mk (blk_below HX.out hb); have HY1 := Aside0.mk (blk_below HY.out hb); clear HB HX HY hb; have HB := HB1; have HX := HX1; have HY := HY1; clear HB1 HX1 HY1; (try clear hk0 hk1 hk2 hk3 hk4 hk5 hy0 hy1 hy2); obtain ⟨hk0, hk1, hk2, hk3, hk4, hk5⟩ := box6 HX.out; obtain ⟨hy0, hy1, hy2⟩ := box3 HY.out; have lt1 : w.heap.size < w1.heap.size := lt_of_block HX.out; have lt2 : w.heap.size + 1 < w1.heap.size := lt_of_block HY.out))
  go_ret
  exact ⟨rfl, HB.out⟩

set_option maxHeartbeats 2000000 in
set_option maxRecDepth 100000 in
theorem ll5 (K : Nat) (a0 a1 a2 a3 a4 a5 : Int) (b : Nat) (e : Nat) (A : Option Addr) (c : Nat) (hs : List (List Int)) (A1 : Option Addr) (c1 : Nat) (s : List Int) (w : World) (hl : CL w A hs) (hc : hs.length ≤ c) (hl1 : CB w A1 s) (hc1 : s.length ≤ c1) (z : laws_zzFits7.f K (b : Int) (e : Int) hs = some true) (hbig : s.length ≤ 2147483647) (hne : (s.length : Int) = a1) (he : e + 1 < 18446744073709551616) (gn : laws_growthNext.f K [⟨(b : Int), (e : Int), hs⟩] = some false) :
    Calls Tryd.prog 11 #[.agg #[.int .i64 a0, .int .i64 a1, .int .i64 a2, .int .u64 a3, .int .u64 a4, .int .u64 a5], .agg #[.int .u64 (b : Nat), .int .u64 (e : Nat), .slice A hs.length c], .slice A1 s.length c1] w fun en w' => en = .returned (.bool true) ∧ Below w.heap.size w w' := by
  have _ := hc1
  have hl_ := Aside0.mk hl
  have hl1_ := Aside0.mk hl1
  clear hl hl1
  have HB : Aside0 (Below w.heap.size w ((w.alloc (.cells #[.int .i64 a0, .int .i64 a1, .int .i64 a2, .int .u64 a3, .int .u64 a4, .int .u64 a5] 24)).alloc (.cells #[.int .u64 (b : Nat), .int .u64 (e : Nat), .slice A hs.length c] 35))) := ⟨below_alloc (below_alloc (Below.refl _ _) _) _⟩
  have HX : Aside0 (((w.alloc (.cells #[.int .i64 a0, .int .i64 a1, .int .i64 a2, .int .u64 a3, .int .u64 a4, .int .u64 a5] 24)).alloc (.cells #[.int .u64 (b : Nat), .int .u64 (e : Nat), .slice A hs.length c] 35)).heap[w.heap.size]? = some (.cells #[.int .i64 a0, .int .i64 a1, .int .i64 a2, .int .u64 a3, .int .u64 a4, .int .u64 a5] 24 (0, 0))) := ⟨blk_below (heap_alloc_new w (.cells #[.int .i64 a0, .int .i64 a1, .int .i64 a2, .int .u64 a3, .int .u64 a4, .int .u64 a5] 24)) (below_alloc (Below.refl _ _) (.cells #[.int .u64 (b : Nat), .int .u64 (e : Nat), .slice A hs.length c] 35))⟩
  have HY : Aside0 (((w.alloc (.cells #[.int .i64 a0, .int .i64 a1, .int .i64 a2, .int .u64 a3, .int .u64 a4, .int .u64 a5] 24)).alloc (.cells #[.int .u64 (b : Nat), .int .u64 (e : Nat), .slice A hs.length c] 35)).heap[w.heap.size + 1]? = some (.cells #[.int .u64 (b : Nat), .int .u64 (e : Nat), .slice A hs.length c] 35 (0, 0))) := ⟨by
    have h1 := heap_alloc_new (w.alloc (.cells #[.int .i64 a0, .int .i64 a1, .int .i64 a2, .int .u64 a3, .int .u64 a4, .int .u64 a5] 24)) (.cells #[.int .u64 (b : Nat), .int .u64 (e : Nat), .slice A hs.length c] 35)
    simpa using h1⟩
  have Z := Aside0.mk z
  clear z
  have GN := Aside0.mk gn
  clear gn
  have t1 : decide ((2147483647 : Int) < (s.length : Int)) = false := decide_eq_false (by omega)
  have t1n : decide (2147483647 < s.length) = false := decide_eq_false (by omega)
  clear hbig
  have t2 : ((s.length : Int) != a1) = false := bne_eq_false_iff_eq.2 hne
  clear hne
  obtain ⟨E1, hE1⟩ : ∃ E1 : Nat, e + 1 = E1 := ⟨_, rfl⟩
  have hw : ∀ z : Int, z = 1 → IntKind.u64.wrap ((e : Int) + z) = (E1 : Int) := fun z hz => by
    rw [hz]
    show ((e : Int) + 1) % 18446744073709551616 = _
    omega
  have t3 : ((E1 : Int) == 0) = false := beq_eq_false_iff_ne.2 (by omega)
  have t3n : (E1 == 0) = false := beq_eq_false_iff_ne.2 (by omega)
  clear hE1 he
  go_enter Tryd.func11, Tryd.ntmps11
  go_wp2_with fail
  go_wp2_with (first
    | (go_at_call 19; (with_reducible refine (laws_zzFits7.calls K _ _ A c hs _ _ (Kd.C_below hl_.out HB.out) hc Z.out).mono ?_); rintro en w1 ⟨rfl, hd⟩; (first | have hb := hd.below | have hb := hd); clear hd; have HB1 := Aside0.mk (below_then HB.out HB.out.size hb); have HX1 := Aside0.mk (blk_below HX.out hb); have HY1 := Aside0.mk (blk_below HY.out hb); clear HB HX HY hb; have HB := HB1; have HX := HX1; have HY := HY1; clear HB1 HX1 HY1; (try clear hk0 hk1 hk2 hk3 hk4 hk5 hy0 hy1 hy2); obtain ⟨hk0, hk1, hk2, hk3, hk4, hk5⟩ := box6 HX.out; obtain ⟨hy0, hy1, hy2⟩ := box3 HY.out; have lt1 : w.heap.size < w1.heap.size := lt_of_block HX.out; have lt2 : w.heap.size + 1 < w1.heap.size := lt_of_block HY.out)
    | (go_at_call 39; have hba : Below w1.heap.size w1 (w1.alloc (.cells #[.int .u64 (b : Nat), .int .u64 (e : Nat), .slice A hs.length c] 35)) := below_alloc (Below.refl _ _) _; refine (laws_growthNext.calls K (some ⟨w1.heap.size, 0, none⟩) 1 _ _ _ (c35 (heap_alloc_new w1 (.cells #[.int .u64 (b : Nat), .int .u64 (e : Nat), .slice A hs.length c] 35)) hc (Kd.C_below (Kd.C_below hl_.out HB.out) hba)) (Nat.le_refl _) GN.out).mono ?_; rintro en w2 ⟨rfl, hd⟩; (first | have hb0 := hd.below | have hb0 := hd); clear hd; have hb := below_step hba hb0; clear hba hb0; have HB1 := Aside0.mk (below_then HB.out HB.out.size hb); have HX1 := Aside0.mk (blk_below HX.out hb); have HY1 := Aside0.mk (blk_below HY.out hb); clear HB HX HY hb; have HB := HB1; have HX := HX1; have HY := HY1; clear HB1 HX1 HY1; (try clear hk0 hk1 hk2 hk3 hk4 hk5 hy0 hy1 hy2); obtain ⟨hk0, hk1, hk2, hk3, hk4, hk5⟩ := box6 HX.out; obtain ⟨hy0, hy1, hy2⟩ := box3 HY.out))
  go_ret
  exact ⟨rfl, HB.out⟩

set_option maxHeartbeats 4000000 in
set_option maxRecDepth 100000 in
theorem ll6 (K : Nat) (a0 a1 a2 a3 a4 a5 : Int) (e : Nat) (A : Option Addr) (c : Nat) (hs : List (List Int)) (A1 : Option Addr) (c1 : Nat) (s : List Int) (w : World) (hl : CL w A hs) (hc : hs.length ≤ c) (hl1 : CB w A1 s) (hc1 : s.length ≤ c1) (HG_ : Glob w) (k : Nat) (l' : List (List Int)) (m : Nat) (r : List Int) (z : laws_zzFits7.f K 0 (e : Int) hs = some true) (hbig : s.length ≤ 2147483647) (hne : (s.length : Int) = a1) (he : e + 1 < 18446744073709551616) (gn : laws_growthNext.f K [⟨0, (e : Int), hs⟩] = some true) (h300 : hs.length ≤ 300) (ht0 : impl_texts.f k hs = some hs) (htM : impl_texts.f k [s] = some [s]) (hte : impl_texts.f k l' = some l') (hsz : compact_RangeSize.f ((0 : Nat) : Int) (e : Int) = some (hs.length : Int)) (hsz1 : compact_RangeSize.f (e : Int) ((e + 1 : Nat) : Int) = some 1) (hszE : compact_RangeSize.f ((0 : Nat) : Int) ((e + 1 : Nat) : Int) = some (l'.length : Int)) (hst : MStep a0 a1 a2 a3 a4 a5 0 e hs s l') (hm : l'.length = m + 1) (hm2 : m ≤ 1000) (hrow : ∀ h ∈ l', h.length ≤ 3000000000) (hr : chB a0 a2 a5 (l'.take m).reverse (l'.getD m []) = r) (hvi : viF a0 a1 a2 a3 a4 a5 (e : Int) ((e + 1 : Nat) : Int) s hs.reverse r = some (0, [])) :
    Calls Tryd.prog 11 #[.agg #[.int .i64 a0, .int .i64 a1, .int .i64 a2, .int .u64 a3, .int .u64 a4, .int .u64 a5], .agg #[.int .u64 0, .int .u64 (e : Nat), .slice A hs.length c], .slice A1 s.length c1] w fun en w' => en = .returned (.bool true) ∧ Below w.heap.size w w' := by
  have hl_ := Aside0.mk hl
  have hl1_ := Aside0.mk hl1
  clear hl hl1
  have HB : Aside0 (Below w.heap.size w ((w.alloc (.cells #[.int .i64 a0, .int .i64 a1, .int .i64 a2, .int .u64 a3, .int .u64 a4, .int .u64 a5] 24)).alloc (.cells #[.int .u64 0, .int .u64 (e : Nat), .slice A hs.length c] 35))) := ⟨below_alloc (below_alloc (Below.refl _ _) _) _⟩
  have HX : Aside0 (((w.alloc (.cells #[.int .i64 a0, .int .i64 a1, .int .i64 a2, .int .u64 a3, .int .u64 a4, .int .u64 a5] 24)).alloc (.cells #[.int .u64 0, .int .u64 (e : Nat), .slice A hs.length c] 35)).heap[w.heap.size]? = some (.cells #[.int .i64 a0, .int .i64 a1, .int .i64 a2, .int .u64 a3, .int .u64 a4, .int .u64 a5] 24 (0, 0))) := ⟨blk_below (heap_alloc_new w (.cells #[.int .i64 a0, .int .i64 a1, .int .i64 a2, .int .u64 a3, .int .u64 a4, .int .u64 a5] 24)) (below_alloc (Below.refl _ _) (.cells #[.int .u64 0, .int .u64 (e : Nat), .slice A hs.length c] 35))⟩
  have HY : Aside0 (((w.alloc (.cells #[.int .i64 a0, .int .i64 a1, .int .i64 a2, .int .u64 a3, .int .u64 a4, .int .u64 a5] 24)).alloc (.cells #[.int .u64 0, .int .u64 (e : Nat), .slice A hs.length c] 35)).heap[w.heap.size + 1]? = some (.cells #[.int .u64 0, .int .u64 (e : Nat), .slice A hs.length c] 35 (0, 0))) := ⟨by
    have h1 := heap_alloc_new (w.alloc (.cells #[.int .i64 a0, .int .i64 a1, .int .i64 a2, .int .u64 a3, .int .u64 a4, .int .u64 a5] 24)) (.cells #[.int .u64 0, .int .u64 (e : Nat), .slice A hs.length c] 35)
    simpa using h1⟩
  have Z := Aside0.mk z
  clear z
  have GN := Aside0.mk gn
  clear gn
  have HG := Aside0.mk HG_
  clear HG_
  have HT0 := Aside0.mk ht0
  clear ht0
  have HTM := Aside0.mk htM
  clear htM
  have HTE := Aside0.mk hte
  clear hte
  have HSZ := Aside0.mk hsz
  clear hsz
  have HS1 := Aside0.mk hsz1
  clear hsz1
  have HST := Aside0.mk hst
  clear hst
  have HMM := Aside0.mk hm
  clear hm
  have HRW := Aside0.mk hrow
  clear hrow
  have HRR := Aside0.mk hr
  clear hr
  have H300 := Aside0.mk h300
  clear h300
  have t1 : decide ((2147483647 : Int) < (s.length : Int)) = false := decide_eq_false (by omega)
  have t1n : decide (2147483647 < s.length) = false := decide_eq_false (by omega)
  have HBG := Aside0.mk hbig
  clear hbig
  have t2 : ((s.length : Int) != a1) = false := bne_eq_false_iff_eq.2 hne
  clear hne
  obtain ⟨E1, hE1⟩ : ∃ E1 : Nat, e + 1 = E1 := ⟨_, rfl⟩
  have hw : ∀ z : Int, z = 1 → IntKind.u64.wrap ((e : Int) + z) = (E1 : Int) := fun z hz => by
    rw [hz]
    show ((e : Int) + 1) % 18446744073709551616 = _
    omega
  have t3 : ((E1 : Int) == 0) = false := beq_eq_false_iff_ne.2 (by omega)
  have t3n : (E1 == 0) = false := beq_eq_false_iff_ne.2 (by omega)
  rw [hE1] at hszE hvi he
  have HSE := Aside0.mk hszE
  have HVI := Aside0.mk hvi
  have HE := Aside0.mk he
  have HE1 := Aside0.mk hE1
  have HM2 := Aside0.mk hm2
  clear hszE hvi he hE1 hm2
  have hw1 : ∀ z : Int, z = 1 → wrap64 ((hs.length : Int) - z) = (hs.length : Int) - 1 := fun z hz => by rw [hz]; exact w64_in _ (by have := H300.out; omega)
  go_enter Tryd.func11, Tryd.ntmps11
  go_wp2_with fail
  go_wp2_with (first
    | (go_at_call 19; (with_reducible refine (laws_zzFits7.calls K _ _ A c hs _ _ (Kd.C_below hl_.out HB.out) hc Z.out).mono ?_); rintro en w1 ⟨rfl, hd⟩; (first | have hb := hd.below | have hb := hd); clear hd; have HB1 := Aside0.mk (below_then HB.out HB.out.size hb); have HX1 := Aside0.mk (blk_below HX.out hb); have HY1 := Aside0.mk (blk_below HY.out hb); clear HB HX HY hb; have HB := HB1; have HX := HX1; have HY := HY1; clear HB1 HX1 HY1; (try clear hk0 hk1 hk2 hk3 hk4 hk5 hy0 hy1 hy2); obtain ⟨hk0, hk1, hk2, hk3, hk4, hk5⟩ := box6 HX.out; obtain ⟨hy0, hy1, hy2⟩ := box3 HY.out; have lt1 : w.heap.size < w1.heap.size := lt_of_block HX.out; have lt2 : w.heap.size + 1 < w1.heap.size := lt_of_block HY.out)
    | (go_at_call 39; have hba : Below w1.heap.size w1 (w1.alloc (.cells #[.int .u64 0, .int .u64 (e : Nat), .slice A hs.length c] 35)) := below_alloc (Below.refl _ _) _; refine (laws_growthNext.calls K (some ⟨w1.heap.size, 0, none⟩) 1 _ _ _ (c35 (heap_alloc_new w1 (.cells #[.int .u64 0, .int .u64 (e : Nat), .slice A hs.length c] 35)) hc (Kd.C_below (Kd.C_below hl_.out HB.out) hba)) (Nat.le_refl _) GN.out).mono ?_; rintro en w2 ⟨rfl, hd⟩; (first | have hb0 := hd.below | have hb0 := hd); clear hd; have hb := below_step hba hb0; clear hba hb0; have HB1 := Aside0.mk (below_then HB.out HB.out.size hb); have HX1 := Aside0.mk (blk_below HX.out hb); have HY1 := Aside0.mk (blk_below HY.out hb); clear HB HX HY hb; have HB := HB1; have HX := HX1; have HY := HY1; clear HB1 HX1 HY1; (try clear hk0 hk1 hk2 hk3 hk4 hk5 hy0 hy1 hy2); obtain ⟨hk0, hk1, hk2, hk3, hk4, hk5⟩ := box6 HX.out; obtain ⟨hy0, hy1, hy2⟩ := box3 HY.out))
  (try simp only [Act.put, List.setIfInBounds_toArray, List.set_cons_zero, List.set_cons_succ])
  go_loopg [7, 8] hs.length (fun kq v7 v8 wr => ∃ (j : Nat), j = kq ∧ j ≤ hs.length ∧ v8 = .int .i64 ((j : Int) - 1) ∧ Aside0 ((kF w2).R 28 wr w2.heap.size (fun _ => True) v7 (hs.drop j).reverse) ∧ Aside0 (Below w2.heap.size w2 wr))
  case atStart => exact ⟨hs.length, rfl, Nat.le_refl _, by first | rfl | (rw [hw1 1 rfl]), ⟨by rw [List.drop_length]; exact Kd.R_nil _ _ _ _ _⟩, ⟨Below.refl _ _⟩⟩
  case round =>
    clear hw1 hk0 hk1 hk2 hk3 hk4 hk5 hy0 hy1 hy2 lt1 lt2
    obtain ⟨j, hjk, hjm, rfl, HO, HBr⟩ := hrel
    have HJ := Aside0.mk hjk
    clear hjk
    rename World => wr
    have HB3 := Aside0.mk (below_then HB.out HB.out.size HBr.out)
    have HX3 := Aside0.mk (blk_below HX.out HBr.out)
    have HY3 := Aside0.mk (blk_below HY.out HBr.out)
    obtain ⟨hk0, hk1, hk2, hk3, hk4, hk5⟩ := box6 HX3.out
    obtain ⟨hy0, hy1, hy2⟩ := box3 HY3.out
    rcases j with _ | q
    · rw [show (((0 : Nat) : Int) - 1) = -1 by omega]
      have ho := HO.out
      rw [List.drop_zero] at ho
      obtain ⟨Ar, cr, rfl, hlr, hCr⟩ := kF_reads ho HBr.out
      have HCr := Aside0.mk hCr
      have HLr := Aside0.mk hlr
      clear ho hCr hlr HO HB HX HY HJ
      have HB := HB3
      have HX := HX3
      have HY := HY3
      clear HB3 HX3 HY3
      generalize hs.reverse = path at HCr HLr HVI ⊢
      go_wp2
      have HBd := Aside0.mk (below_drew1 HB.out)
      have HXd := Aside0.mk (blk_drew HX.out)
      have HYd := Aside0.mk (blk_drew HY.out)
      have HCd := Aside0.mk (Kd.C_below HCr.out (below_drew (Below.refl wr.heap.size wr)))
      refine start_ (n := 13) (S := fun w' => w'.cell? ⟨w.heap.size, 0, none⟩ = some (.int .i64 a0) ∧ w'.cell? ⟨w.heap.size, 1, none⟩ = some (.int .i64 a1) ∧ w'.cell? ⟨w.heap.size, 2, none⟩ = some (.int .i64 a2) ∧ w'.cell? ⟨w.heap.size, 3, none⟩ = some (.int .u64 a3) ∧ w'.cell? ⟨w.heap.size, 4, none⟩ = some (.int .u64 a4) ∧ w'.cell? ⟨w.heap.size, 5, none⟩ = some (.int .u64 a5) ∧ w'.cell? ⟨w.heap.size + 1, 0, none⟩ = some (.int .u64 0) ∧ w'.cell? ⟨w.heap.size + 1, 1, none⟩ = some (.int .u64 (e : Nat)) ∧ w'.cell? ⟨w.heap.size + 1, 2, none⟩ = some (.slice A hs.length c)) (ds := []) #[false, false, false, false, false, false, false, false, false, false, false, false, false] (by kernel_rfl) rfl rfl ⟨(blk_cell HXd.out 0).trans rfl, (blk_cell HXd.out 1).trans rfl, (blk_cell HXd.out 2).trans rfl, (blk_cell HXd.out 3).trans rfl, (blk_cell HXd.out 4).trans rfl, (blk_cell HXd.out 5).trans rfl, (blk_cell HYd.out 0).trans rfl, (blk_cell HYd.out 1).trans rfl, (blk_cell HYd.out 2).trans rfl⟩ (fun hHeld => ?_)
      generalize wr.drew = wz at HBd HXd HYd HCd hHeld ⊢
      clear HB HX HY HCr hk0 hk1 hk2 hk3 hk4 hk5 hy0 hy1 hy2
      refine take_ (i := 0) (N := some 55) (v := ?_) (a' := ?_) #[true, false, false, false, false, false, false, false, false, false, false, false, false] rfl rfl (by kernel_rfl) (fun _ _ _ h => h) (Or.inl ⟨by rfl, ?_⟩) hHeld ?_ ?_
      rotate_left
      · rintro w' ⟨s0, s1, s2, s3, s4, s5, s6, s7, s8⟩
        go_simp
        with_reducible rfl
      rotate_left
      · simp only [Act.put, List.setIfInBounds_toArray, List.set_cons_zero, List.set_cons_succ]
        rfl
      refine take_ (i := 1) (N := some 56) (v := ?_) (a' := ?_) #[true, true, false, false, false, false, false, false, false, false, false, false, false] rfl rfl (by kernel_rfl) (fun _ _ _ h => h) (Or.inl ⟨by rfl, ?_⟩) hHeld ?_ ?_
      rotate_left
      · rintro w' ⟨s0, s1, s2, s3, s4, s5, s6, s7, s8⟩
        go_simp
        with_reducible rfl
      rotate_left
      · simp only [Act.put, List.setIfInBounds_toArray, List.set_cons_zero, List.set_cons_succ]
        rfl
      refine pure_ (i := 2) (N := some 57) (v := ?_) (a' := ?_) #[true, true, true, false, false, false, false, false, false, false, false, false, false] rfl rfl (by kernel_rfl) (fun _ _ _ h => h) (Or.inl ⟨by rfl, ?_⟩) ?_ ?_
      rotate_left
      · intro w'
        go_simp
        with_reducible rfl
      rotate_left
      · simp only [Act.put, List.setIfInBounds_toArray, List.set_cons_zero, List.set_cons_succ]
        rfl
      refine take_ (i := 3) (N := some 58) (v := ?_) (a' := ?_) #[true, true, true, true, false, false, false, false, false, false, false, false, false] rfl rfl (by kernel_rfl) (fun _ _ _ h => h) (Or.inl ⟨by rfl, ?_⟩) hHeld ?_ ?_
      rotate_left
      · rintro w' ⟨s0, s1, s2, s3, s4, s5, s6, s7, s8⟩
        go_simp
        with_reducible rfl
      rotate_left
      · simp only [Act.put, List.setIfInBounds_toArray, List.set_cons_zero, List.set_cons_succ]
        rfl
      refine pure_ (i := 4) (N := some 59) (v := ?_) (a' := ?_) #[true, true, true, true, true, false, false, false, false, false, false, false, false] rfl rfl (by kernel_rfl) (fun _ _ _ h => h) (Or.inl ⟨by rfl, ?_⟩) ?_ ?_
      rotate_left
      · intro w'
        go_simp
        with_reducible rfl
      rotate_left
      · simp only [Act.put, List.setIfInBounds_toArray, List.set_cons_zero, List.set_cons_succ]
        rfl
      refine one_ (i := 5) (N := some 60) #[true, true, true, true, true, true, false, false, false, false, false, false, false] rfl rfl (by kernel_rfl) (by decide) (fun K hK => ?_)
      refine goes_ Tryd.func41 (by kernel_rfl) rfl #[.int .u64 (e : Nat), .slice A1 s.length c1] (by rfl) rfl rfl (by (try simp only [List.map_toArray, List.map_cons, List.map_nil]); first | done | rfl) ?_
      refine (leaf0_calls e E1 HE1.out HE.out A1 s.length c1 _).mono ?_
      rintro en w4 ⟨g, rfl, hg0, hg1, hb⟩
      refine ⟨_, rfl, ?_⟩
      have HB4 := Aside0.mk (below_then HBd.out HBd.out.size hb)
      have HX4 := Aside0.mk (blk_below HXd.out hb)
      have HY4 := Aside0.mk (blk_below HYd.out hb)
      have HC4 := Aside0.mk (Kd.C_below HCd.out hb)
      have HG4 := Aside0.mk hg1
      clear HBd HXd HYd HCd hb hg0 hg1
      refine hK.out _ _ ⟨(blk_cell HX4.out 0).trans rfl, (blk_cell HX4.out 1).trans rfl, (blk_cell HX4.out 2).trans rfl, (blk_cell HX4.out 3).trans rfl, (blk_cell HX4.out 4).trans rfl, (blk_cell HX4.out 5).trans rfl, (blk_cell HY4.out 0).trans rfl, (blk_cell HY4.out 1).trans rfl, (blk_cell HY4.out 2).trans rfl⟩ (fun hHeld => ?_)
      clear hK K
      refine norm_ (a' := ?_) ?_ ?_
      rotate_left
      · show Act.put _ (some 60) _ = _
        simp only [Act.put, List.setIfInBounds_toArray, List.set_cons_zero, List.set_cons_succ]
        rfl
      refine one_ (i := 6) (N := some 61) #[true, true, true, true, true, true, true, false, false, false, false, false, false] rfl rfl (by kernel_rfl) (by decide) (fun K hK => ?_)
      refine event_step rfl (v := .slice (some ⟨_, 0, none⟩) 2 2) (w1 := World.alloc _ (.cells #[.int .u64 0, .int .u64 (e : Nat), .slice A hs.length c, .int .u64 (e : Nat), .int .u64 (E1 : Nat), .slice (some ⟨g, 0, none⟩) 1 1] 35)) (by first | (go_simp; done) | (go_simp; rfl) | (go_simp; exact ⟨rfl, rfl⟩)) ?_
      have hb : Below w4.heap.size w4 (w4.alloc (.cells #[.int .u64 0, .int .u64 (e : Nat), .slice A hs.length c, .int .u64 (e : Nat), .int .u64 (E1 : Nat), .slice (some ⟨g, 0, none⟩) 1 1] 35)) := below_alloc (Below.refl _ _) _
      have HL5 := Aside0.mk (heap_alloc_new w4 (.cells #[.int .u64 0, .int .u64 (e : Nat), .slice A hs.length c, .int .u64 (e : Nat), .int .u64 (E1 : Nat), .slice (some ⟨g, 0, none⟩) 1 1] 35))
      have HB5 := Aside0.mk (below_then HB4.out HB4.out.size hb)
      have HX5 := Aside0.mk (blk_below HX4.out hb)
      have HY5 := Aside0.mk (blk_below HY4.out hb)
      have HC5 := Aside0.mk (Kd.C_below HC4.out hb)
      have HG5 := Aside0.mk (blk_below HG4.out hb)
      clear HB4 HX4 HY4 HC4 HG4 hb
      generalize (w4.alloc (.cells #[.int .u64 0, .int .u64 (e : Nat), .slice A hs.length c, .int .u64 (e : Nat), .int .u64 (E1 : Nat), .slice (some ⟨g, 0, none⟩) 1 1] 35)) = w5 at HL5 HB5 HX5 HY5 HC5 HG5 ⊢
      refine hK.out _ _ ⟨(blk_cell HX5.out 0).trans rfl, (blk_cell HX5.out 1).trans rfl, (blk_cell HX5.out 2).trans rfl, (blk_cell HX5.out 3).trans rfl, (blk_cell HX5.out 4).trans rfl, (blk_cell HX5.out 5).trans rfl, (blk_cell HY5.out 0).trans rfl, (blk_cell HY5.out 1).trans rfl, (blk_cell HY5.out 2).trans rfl⟩ (fun hHeld => ?_)
      clear hK K
      refine norm_ (a' := ?_) ?_ ?_
      rotate_left
      · show Act.put _ (some 61) _ = _
        simp only [Act.put, List.setIfInBounds_toArray, List.set_cons_zero, List.set_cons_succ]
        rfl
      refine one_ (i := 7) (N := some 62) #[true, true, true, true, true, true, true, true, false, false, false, false, false] rfl rfl (by kernel_rfl) (by decide) (fun K hK => ?_)
      refine goes_ Tryd.func40 (by kernel_rfl) rfl #[.agg #[.int .i64 a0, .int .i64 a1, .int .i64 a2, .int .u64 a3, .int .u64 a4, .int .u64 a5], .slice (some ⟨w4.heap.size, 0, none⟩) 2 2] (by rfl) rfl rfl (by (try simp only [List.map_toArray, List.map_cons, List.map_nil]); first | done | rfl) ?_
      refine (growthRoot_calls a0 a1 a2 a3 a4 a5 e E1 A c hs (some ⟨g, 0, none⟩) 1 s l' m r k w4.heap.size w5 HL5.out hc (Nat.le_refl _) (Kd.C_below hl_.out HB5.out) (cl_one HG5.out hc1 (Kd.C_below hl1_.out HB5.out)) (Glob.below HG.out HB5.out) HT0.out HTM.out HTE.out HSZ.out HS1.out HSE.out HE1.out HE.out (by have := H300.out; omega) HST.out HMM.out HM2.out HRW.out HRR.out).mono ?_
      rintro en w6 ⟨A6, c6, rfl, hl6, hC6, hb⟩
      refine ⟨_, rfl, ?_⟩
      have HB := Aside0.mk (below_then HB5.out HB5.out.size hb)
      have HX := Aside0.mk (blk_below HX5.out hb)
      have HY := Aside0.mk (blk_below HY5.out hb)
      have HCr := Aside0.mk (Kd.C_below HC5.out hb)
      have HC6 := Aside0.mk hC6
      have HL6 := Aside0.mk hl6
      clear HB5 HX5 HY5 HC5 HG5 HL5 hb hC6 hl6
      refine hK.out _ _ ⟨(blk_cell HX.out 0).trans rfl, (blk_cell HX.out 1).trans rfl, (blk_cell HX.out 2).trans rfl, (blk_cell HX.out 3).trans rfl, (blk_cell HX.out 4).trans rfl, (blk_cell HX.out 5).trans rfl, (blk_cell HY.out 0).trans rfl, (blk_cell HY.out 1).trans rfl, (blk_cell HY.out 2).trans rfl⟩ (fun hHeld => ?_)
      clear hK K
      refine norm_ (a' := ?_) ?_ ?_
      rotate_left
      · show Act.put _ (some 62) _ = _
        simp only [Act.put, List.setIfInBounds_toArray, List.set_cons_zero, List.set_cons_succ]
        rfl
      refine pure_ (i := 8) (N := some 54) (v := ?_) (a' := ?_) #[true, true, true, true, true, true, true, true, true, false, false, false, false] rfl rfl (by kernel_rfl) (fun _ _ _ h => h) (Or.inl ⟨by rfl, ?_⟩) ?_ ?_
      rotate_left
      · intro w'
        go_simp
        with_reducible rfl
      rotate_left
      · simp only [Act.put, List.setIfInBounds_toArray, List.set_cons_zero, List.set_cons_succ]
        rfl
      refine pure_ (i := 9) (N := some 63) (v := ?_) (a' := ?_) #[true, true, true, true, true, true, true, true, true, true, false, false, false] rfl rfl (by kernel_rfl) (fun _ _ _ h => h) (Or.inl ⟨by rfl, ?_⟩) ?_ ?_
      rotate_left
      · intro w'
        go_simp
        with_reducible rfl
      rotate_left
      · simp only [Act.put, List.setIfInBounds_toArray, List.set_cons_zero, List.set_cons_succ]
        rfl
      refine pure_ (i := 10) (N := some 64) (v := ?_) (a' := ?_) #[true, true, true, true, true, true, true, true, true, true, true, false, false] rfl rfl (by kernel_rfl) (fun _ _ _ h => h) (Or.inl ⟨by rfl, ?_⟩) ?_ ?_
      rotate_left
      · intro w'
        go_simp
        with_reducible rfl
      rotate_left
      · simp only [Act.put, List.setIfInBounds_toArray, List.set_cons_zero, List.set_cons_succ]
        rfl
      refine pure_ (i := 11) (N := some 9) (v := ?_) (a' := ?_) #[true, true, true, true, true, true, true, true, true, true, true, true, false] rfl rfl (by kernel_rfl) (fun _ _ _ h => h) (Or.inl ⟨by rfl, ?_⟩) ?_ ?_
      rotate_left
      · intro w'
        go_simp
        with_reducible rfl
      rotate_left
      · simp only [Act.put, List.setIfInBounds_toArray, List.set_cons_zero, List.set_cons_succ]
        rfl
      refine pure_ (i := 12) (N := some 10) (v := ?_) (a' := ?_) #[true, true, true, true, true, true, true, true, true, true, true, true, true] rfl rfl (by kernel_rfl) (fun _ _ _ h => h) (Or.inl ⟨by rfl, ?_⟩) ?_ ?_
      rotate_left
      · intro w'
        go_simp
        with_reducible rfl
      rotate_left
      · simp only [Act.put, List.setIfInBounds_toArray, List.set_cons_zero, List.set_cons_succ]
        rfl
      refine done_ (by kernel_rfl) ?_
      obtain ⟨hk0, hk1, hk2, hk3, hk4, hk5⟩ := box6 HX.out
      obtain ⟨hy0, hy1, hy2⟩ := box3 HY.out
      go_wp2_with (first
        | (go_at_call 38; (with_reducible refine (viF_calls a0 a1 a2 a3 a4 a5 (e : Int) (E1 : Int) A1 c1 s Ar cr path A6 c6 r 0 [] _ (Kd.C_below hl1_.out HB.out) HCr.out HLr.out HC6.out HVI.out).mono ?_); rintro en w8 ⟨v8, rfl, _, hb⟩; have HB1 := Aside0.mk (below_then HB.out HB.out.size hb); have HX1 := Aside0.mk (blk_below HX.out hb); have HY1 := Aside0.mk (blk_below HY.out hb); clear HB HX HY hb; have HB := HB1; have HX := HX1; have HY := HY1; clear HB1 HX1 HY1; (try clear hk0 hk1 hk2 hk3 hk4 hk5 hy0 hy1 hy2); obtain ⟨hk0, hk1, hk2, hk3, hk4, hk5⟩ := box6 HX.out; obtain ⟨hy0, hy1, hy2⟩ := box3 HY.out))
      go_ret
      exact ⟨rfl, HB.out⟩
    · rw [show (((q + 1 : Nat) : Int) - 1) = (q : Int) by omega]
      have HQM : Aside0 (q ≤ hs.length) := ⟨by omega⟩
      have hql : q < hs.length := by omega
      have q0 : (0 : Int) ≤ (q : Int) := by omega
      have q1 : (q : Int) < (hs.length : Int) := by omega
      have q2 : decide ((0 : Int) ≤ (q : Int)) = true := decide_eq_true q0
      have hw3 : ∀ z : Int, z = 1 → wrap64 ((q : Int) - z) = (q : Int) - 1 := fun z hz => by rw [hz]; exact w64_in _ (by have := H300.out; omega)
      obtain ⟨ad, Ah, ch, ead, hx, hlh, hCh⟩ := at_L (Kd.C_below hl_.out HB.out) q hql
      cases ead
      have hx := pw_cell_below HBr.out hx
      have hsn : (hs.drop q).reverse = (hs.drop (q + 1)).reverse ++ [hs.getD q []] := by
        rw [List.drop_eq_getElem_cons hql, List.reverse_cons, List.getD_eq_getElem?_getD, List.getElem?_eq_getElem hql]
        rfl
      have hxl : (hs.drop (q + 1)).reverse.length ≤ 1000 := by rw [List.length_reverse, List.length_drop]; have := H300.out; omega
      have HSN := Aside0.mk hsn
      generalize hs.getD q [] = hsh at hx hlh hCh HSN
      have HCh := Aside0.mk hCh
      have HLh := Aside0.mk hlh
      have HXL := Aside0.mk hxl
      clear hCh hlh hsn hxl
      generalize (hs.drop (q + 1)).reverse = xs at HO HSN HXL
      go_wp2_with (first
        | ((with_reducible refine gate_builtin (b := .append) (xs := #[.tmp 46, .tmp 52]) rfl ?_); at_builtin; refine Kd.R_append (kF w2) (w0 := w2) w2.heap.size rfl (.tmp 46) (.tmp 52) 25 28 (.slice none 0 0) 24 rfl Tryd.underlying25 infoL rfl Nat.zero_lt_one (by omega) _ xs hsh [.slice Ah hsh.length ch] (fun _ => True) (fun _ => False) rfl rfl ⟨Ah, ch, rfl, HLh.out, HCh.out⟩ (fun _ h => h.elim) (fun _ _ => trivial) HO.out HBr.out (below_size HBr.out) (by have := HXL.out; omega) ?_; intro v8 w8 ho hb hg hat; have HO8 := Aside0.mk ho; have HB8 := Aside0.mk hb; clear ho hb hg hat))
      go_roundg q
      case measure => have := HJ.out; omega
      case rel => exact ⟨q, rfl, HQM.out, by first | rfl | rw [hw3 1 rfl], ⟨by rw [HSN.out]; exact HO8.out⟩, HB8⟩
end Go.Proofs.YtfhcpniibiobgaaDoor.Qr
