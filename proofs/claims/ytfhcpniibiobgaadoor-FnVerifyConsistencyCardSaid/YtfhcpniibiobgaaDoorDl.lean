/- The law FnVerifyConsistency, walked (printed by gen_lawvc.py). -/
import Derived.Test.YtfhcpniibiobgaaDoorDk
namespace Go.Proofs.YtfhcpniibiobgaaDoor.Qf
open Go.RowKit Go.Proofs.YtfhcpniibiobgaaDoorW.PrintWords Go.Proofs.YtfhcpniibiobgaaDoorW.PrintLast Go.Proofs.YtfhcpniibiobgaaDoorW.PrintMore
open Hs (CB CL at_L at_B infoB infoL R_of_blk bcell)

theorem box6 {w : World} {g : Nat} {a0 a1 a2 a3 a4 a5 : Int} (h : w.heap[g]? = some (.cells #[.int .i64 a0, .int .i64 a1, .int .i64 a2, .int .u64 a3, .int .u64 a4, .int .u64 a5] 24 (0, 0))) : w.cell? ⟨g, 0, none⟩ = some (.int .i64 a0) ∧ w.cell? ⟨g, 1, none⟩ = some (.int .i64 a1) ∧ w.cell? ⟨g, 2, none⟩ = some (.int .i64 a2) ∧ w.cell? ⟨g, 3, none⟩ = some (.int .u64 a3) ∧ w.cell? ⟨g, 4, none⟩ = some (.int .u64 a4) ∧ w.cell? ⟨g, 5, none⟩ = some (.int .u64 a5) :=
  ⟨(blk_cell h 0).trans rfl, (blk_cell h 1).trans rfl, (blk_cell h 2).trans rfl, (blk_cell h 3).trans rfl, (blk_cell h 4).trans rfl, (blk_cell h 5).trans rfl⟩

set_option maxHeartbeats 2000000 in
set_option maxRecDepth 100000 in
theorem law1 (K : Nat) (a0 a1 a2 a3 a4 a5 : Int) (s1 s2 : Nat) (A3 : Option Addr) (c3 : Nat) (b3 : List (List Int)) (A4 : Option Addr) (c4 : Nat) (b4 : List Int) (A5 : Option Addr) (c5 : Nat) (b5 : List Int) (w : World) (h3 : CL w A3 b3) (e3 : b3.length ≤ c3) (h4 : CB w A4 b4) (e4 : b4.length ≤ c4) (h5 : CB w A5 b5) (e5 : b5.length ≤ c5) (z3 : laws_zzFits2.f K b3 = some false) :
    Calls Tryd.prog 5 #[.agg #[.int .i64 a0, .int .i64 a1, .int .i64 a2, .int .u64 a3, .int .u64 a4, .int .u64 a5], .int .u64 (s1 : Int), .int .u64 (s2 : Int), .slice A3 b3.length c3, .slice A4 b4.length c4, .slice A5 b5.length c5] w fun e w' => e = .returned (.bool true) ∧ Below w.heap.size w w' := by
  have h3_ := Aside0.mk h3
  have h4_ := Aside0.mk h4
  have h5_ := Aside0.mk h5
  clear h3 h4 h5
  have _u := And.intro e3 (And.intro e4 (And.intro e5 (And.intro h3_ (And.intro h4_ (And.intro h5_ (Eq.refl K))))))
  clear _u
  have Z3 := Aside0.mk z3
  clear z3
  have HB := Aside0.mk (below_alloc (Below.refl w.heap.size w) (.cells #[.int .i64 a0, .int .i64 a1, .int .i64 a2, .int .u64 a3, .int .u64 a4, .int .u64 a5] 24))
  have HX := Aside0.mk (heap_alloc_new w (.cells #[.int .i64 a0, .int .i64 a1, .int .i64 a2, .int .u64 a3, .int .u64 a4, .int .u64 a5] 24))
  go_enter Tryd.func5, Tryd.ntmps5
  go_wp2_with fail
  go_wp2_with (first
    | (go_at_call 13; (with_reducible refine (laws_zzFits2.calls K _ _ b3 _ _ (Kd.C_below h3_.out HB.out) e3 Z3.out).mono ?_); rintro e w1 ⟨rfl, hd⟩; have hb := hd.below; clear hd; have HB1 := Aside0.mk (below_then HB.out HB.out.size hb); have HX1 := Aside0.mk (blk_below HX.out hb); clear HB HX hb; have HB := HB1; have HX := HX1; clear HB1 HX1; (try clear hk0 hk1 hk2 hk3 hk4 hk5); obtain ⟨hk0, hk1, hk2, hk3, hk4, hk5⟩ := box6 HX.out))
  go_ret
  exact ⟨rfl, HB.out⟩

set_option maxHeartbeats 2000000 in
set_option maxRecDepth 100000 in
theorem law2 (K : Nat) (a0 a1 a2 a3 a4 a5 : Int) (s1 s2 : Nat) (A3 : Option Addr) (c3 : Nat) (b3 : List (List Int)) (A4 : Option Addr) (c4 : Nat) (b4 : List Int) (A5 : Option Addr) (c5 : Nat) (b5 : List Int) (w : World) (h3 : CL w A3 b3) (e3 : b3.length ≤ c3) (h4 : CB w A4 b4) (e4 : b4.length ≤ c4) (h5 : CB w A5 b5) (e5 : b5.length ≤ c5) (z3 : laws_zzFits2.f K b3 = some true) (t4 : decide (2147483647 < (b4.length : Int)) = true) :
    Calls Tryd.prog 5 #[.agg #[.int .i64 a0, .int .i64 a1, .int .i64 a2, .int .u64 a3, .int .u64 a4, .int .u64 a5], .int .u64 (s1 : Int), .int .u64 (s2 : Int), .slice A3 b3.length c3, .slice A4 b4.length c4, .slice A5 b5.length c5] w fun e w' => e = .returned (.bool true) ∧ Below w.heap.size w w' := by
  have h3_ := Aside0.mk h3
  have h4_ := Aside0.mk h4
  have h5_ := Aside0.mk h5
  clear h3 h4 h5
  have _u := And.intro e3 (And.intro e4 (And.intro e5 (And.intro h3_ (And.intro h4_ (And.intro h5_ (Eq.refl K))))))
  clear _u
  have Z3 := Aside0.mk z3
  clear z3
  have HB := Aside0.mk (below_alloc (Below.refl w.heap.size w) (.cells #[.int .i64 a0, .int .i64 a1, .int .i64 a2, .int .u64 a3, .int .u64 a4, .int .u64 a5] 24))
  have HX := Aside0.mk (heap_alloc_new w (.cells #[.int .i64 a0, .int .i64 a1, .int .i64 a2, .int .u64 a3, .int .u64 a4, .int .u64 a5] 24))
  go_enter Tryd.func5, Tryd.ntmps5
  go_wp2_with fail
  go_wp2_with (first
    | (go_at_call 13; (with_reducible refine (laws_zzFits2.calls K _ _ b3 _ _ (Kd.C_below h3_.out HB.out) e3 Z3.out).mono ?_); rintro e w1 ⟨rfl, hd⟩; have hb := hd.below; clear hd; have HB1 := Aside0.mk (below_then HB.out HB.out.size hb); have HX1 := Aside0.mk (blk_below HX.out hb); clear HB HX hb; have HB := HB1; have HX := HX1; clear HB1 HX1; (try clear hk0 hk1 hk2 hk3 hk4 hk5); obtain ⟨hk0, hk1, hk2, hk3, hk4, hk5⟩ := box6 HX.out))
  go_ret
  exact ⟨rfl, HB.out⟩

set_option maxHeartbeats 2000000 in
set_option maxRecDepth 100000 in
theorem law3 (K : Nat) (a0 a1 a2 a3 a4 a5 : Int) (s1 s2 : Nat) (A3 : Option Addr) (c3 : Nat) (b3 : List (List Int)) (A4 : Option Addr) (c4 : Nat) (b4 : List Int) (A5 : Option Addr) (c5 : Nat) (b5 : List Int) (w : World) (h3 : CL w A3 b3) (e3 : b3.length ≤ c3) (h4 : CB w A4 b4) (e4 : b4.length ≤ c4) (h5 : CB w A5 b5) (e5 : b5.length ≤ c5) (z3 : laws_zzFits2.f K b3 = some true) (t4 : decide (2147483647 < (b4.length : Int)) = false) (t5 : decide (2147483647 < (b5.length : Int)) = true) :
    Calls Tryd.prog 5 #[.agg #[.int .i64 a0, .int .i64 a1, .int .i64 a2, .int .u64 a3, .int .u64 a4, .int .u64 a5], .int .u64 (s1 : Int), .int .u64 (s2 : Int), .slice A3 b3.length c3, .slice A4 b4.length c4, .slice A5 b5.length c5] w fun e w' => e = .returned (.bool true) ∧ Below w.heap.size w w' := by
  have h3_ := Aside0.mk h3
  have h4_ := Aside0.mk h4
  have h5_ := Aside0.mk h5
  clear h3 h4 h5
  have _u := And.intro e3 (And.intro e4 (And.intro e5 (And.intro h3_ (And.intro h4_ (And.intro h5_ (Eq.refl K))))))
  clear _u
  have Z3 := Aside0.mk z3
  clear z3
  have HB := Aside0.mk (below_alloc (Below.refl w.heap.size w) (.cells #[.int .i64 a0, .int .i64 a1, .int .i64 a2, .int .u64 a3, .int .u64 a4, .int .u64 a5] 24))
  have HX := Aside0.mk (heap_alloc_new w (.cells #[.int .i64 a0, .int .i64 a1, .int .i64 a2, .int .u64 a3, .int .u64 a4, .int .u64 a5] 24))
  go_enter Tryd.func5, Tryd.ntmps5
  go_wp2_with fail
  go_wp2_with (first
    | (go_at_call 13; (with_reducible refine (laws_zzFits2.calls K _ _ b3 _ _ (Kd.C_below h3_.out HB.out) e3 Z3.out).mono ?_); rintro e w1 ⟨rfl, hd⟩; have hb := hd.below; clear hd; have HB1 := Aside0.mk (below_then HB.out HB.out.size hb); have HX1 := Aside0.mk (blk_below HX.out hb); clear HB HX hb; have HB := HB1; have HX := HX1; clear HB1 HX1; (try clear hk0 hk1 hk2 hk3 hk4 hk5); obtain ⟨hk0, hk1, hk2, hk3, hk4, hk5⟩ := box6 HX.out))
  go_ret
  exact ⟨rfl, HB.out⟩

set_option maxHeartbeats 2000000 in
set_option maxRecDepth 100000 in
theorem law4 (K : Nat) (a0 a1 a2 a3 a4 a5 : Int) (s1 s2 : Nat) (A3 : Option Addr) (c3 : Nat) (b3 : List (List Int)) (A4 : Option Addr) (c4 : Nat) (b4 : List Int) (A5 : Option Addr) (c5 : Nat) (b5 : List Int) (w : World) (h3 : CL w A3 b3) (e3 : b3.length ≤ c3) (h4 : CB w A4 b4) (e4 : b4.length ≤ c4) (h5 : CB w A5 b5) (e5 : b5.length ≤ c5) (z3 : laws_zzFits2.f K b3 = some true) (t4 : decide (2147483647 < (b4.length : Int)) = false) (t5 : decide (2147483647 < (b5.length : Int)) = false) (p3 : laws_logSmall.f K b3 = some false) :
    Calls Tryd.prog 5 #[.agg #[.int .i64 a0, .int .i64 a1, .int .i64 a2, .int .u64 a3, .int .u64 a4, .int .u64 a5], .int .u64 (s1 : Int), .int .u64 (s2 : Int), .slice A3 b3.length c3, .slice A4 b4.length c4, .slice A5 b5.length c5] w fun e w' => e = .returned (.bool true) ∧ Below w.heap.size w w' := by
  have h3_ := Aside0.mk h3
  have h4_ := Aside0.mk h4
  have h5_ := Aside0.mk h5
  clear h3 h4 h5
  have _u := And.intro e3 (And.intro e4 (And.intro e5 (And.intro h3_ (And.intro h4_ (And.intro h5_ (Eq.refl K))))))
  clear _u
  have Z3 := Aside0.mk z3
  clear z3
  have P3 := Aside0.mk p3
  clear p3
  have HB := Aside0.mk (below_alloc (Below.refl w.heap.size w) (.cells #[.int .i64 a0, .int .i64 a1, .int .i64 a2, .int .u64 a3, .int .u64 a4, .int .u64 a5] 24))
  have HX := Aside0.mk (heap_alloc_new w (.cells #[.int .i64 a0, .int .i64 a1, .int .i64 a2, .int .u64 a3, .int .u64 a4, .int .u64 a5] 24))
  go_enter Tryd.func5, Tryd.ntmps5
  go_wp2_with fail
  go_wp2_with (first
    | (go_at_call 13; (with_reducible refine (laws_zzFits2.calls K _ _ b3 _ _ (Kd.C_below h3_.out HB.out) e3 Z3.out).mono ?_); rintro e w1 ⟨rfl, hd⟩; have hb := hd.below; clear hd; have HB1 := Aside0.mk (below_then HB.out HB.out.size hb); have HX1 := Aside0.mk (blk_below HX.out hb); clear HB HX hb; have HB := HB1; have HX := HX1; clear HB1 HX1; (try clear hk0 hk1 hk2 hk3 hk4 hk5); obtain ⟨hk0, hk1, hk2, hk3, hk4, hk5⟩ := box6 HX.out)
    | (go_at_call 15; (with_reducible refine (laws_logSmall.calls K _ _ b3 _ _ (Kd.C_below h3_.out HB.out) e3 P3.out).mono ?_); rintro e w4 ⟨rfl, hd⟩; have hb := hd.below; clear hd; have HB1 := Aside0.mk (below_then HB.out HB.out.size hb); have HX1 := Aside0.mk (blk_below HX.out hb); clear HB HX hb; have HB := HB1; have HX := HX1; clear HB1 HX1; (try clear hk0 hk1 hk2 hk3 hk4 hk5); obtain ⟨hk0, hk1, hk2, hk3, hk4, hk5⟩ := box6 HX.out))
  go_ret
  exact ⟨rfl, HB.out⟩

set_option maxHeartbeats 2000000 in
set_option maxRecDepth 100000 in
theorem law5 (K : Nat) (a0 a1 a2 a3 a4 a5 : Int) (s1 s2 : Nat) (A3 : Option Addr) (c3 : Nat) (b3 : List (List Int)) (A4 : Option Addr) (c4 : Nat) (b4 : List Int) (A5 : Option Addr) (c5 : Nat) (b5 : List Int) (w : World) (h3 : CL w A3 b3) (e3 : b3.length ≤ c3) (h4 : CB w A4 b4) (e4 : b4.length ≤ c4) (h5 : CB w A5 b5) (e5 : b5.length ≤ c5) (z3 : laws_zzFits2.f K b3 = some true) (t4 : decide (2147483647 < (b4.length : Int)) = false) (t5 : decide (2147483647 < (b5.length : Int)) = false) (p3 : laws_logSmall.f K b3 = some true) (u4 : decide (100000 < (b4.length : Int)) = true) :
    Calls Tryd.prog 5 #[.agg #[.int .i64 a0, .int .i64 a1, .int .i64 a2, .int .u64 a3, .int .u64 a4, .int .u64 a5], .int .u64 (s1 : Int), .int .u64 (s2 : Int), .slice A3 b3.length c3, .slice A4 b4.length c4, .slice A5 b5.length c5] w fun e w' => e = .returned (.bool true) ∧ Below w.heap.size w w' := by
  have h3_ := Aside0.mk h3
  have h4_ := Aside0.mk h4
  have h5_ := Aside0.mk h5
  clear h3 h4 h5
  have _u := And.intro e3 (And.intro e4 (And.intro e5 (And.intro h3_ (And.intro h4_ (And.intro h5_ (Eq.refl K))))))
  clear _u
  have Z3 := Aside0.mk z3
  clear z3
  have P3 := Aside0.mk p3
  clear p3
  have HB := Aside0.mk (below_alloc (Below.refl w.heap.size w) (.cells #[.int .i64 a0, .int .i64 a1, .int .i64 a2, .int .u64 a3, .int .u64 a4, .int .u64 a5] 24))
  have HX := Aside0.mk (heap_alloc_new w (.cells #[.int .i64 a0, .int .i64 a1, .int .i64 a2, .int .u64 a3, .int .u64 a4, .int .u64 a5] 24))
  go_enter Tryd.func5, Tryd.ntmps5
  go_wp2_with fail
  go_wp2_with (first
    | (go_at_call 13; (with_reducible refine (laws_zzFits2.calls K _ _ b3 _ _ (Kd.C_below h3_.out HB.out) e3 Z3.out).mono ?_); rintro e w1 ⟨rfl, hd⟩; have hb := hd.below; clear hd; have HB1 := Aside0.mk (below_then HB.out HB.out.size hb); have HX1 := Aside0.mk (blk_below HX.out hb); clear HB HX hb; have HB := HB1; have HX := HX1; clear HB1 HX1; (try clear hk0 hk1 hk2 hk3 hk4 hk5); obtain ⟨hk0, hk1, hk2, hk3, hk4, hk5⟩ := box6 HX.out)
    | (go_at_call 15; (with_reducible refine (laws_logSmall.calls K _ _ b3 _ _ (Kd.C_below h3_.out HB.out) e3 P3.out).mono ?_); rintro e w4 ⟨rfl, hd⟩; have hb := hd.below; clear hd; have HB1 := Aside0.mk (below_then HB.out HB.out.size hb); have HX1 := Aside0.mk (blk_below HX.out hb); clear HB HX hb; have HB := HB1; have HX := HX1; clear HB1 HX1; (try clear hk0 hk1 hk2 hk3 hk4 hk5); obtain ⟨hk0, hk1, hk2, hk3, hk4, hk5⟩ := box6 HX.out))
  go_ret
  exact ⟨rfl, HB.out⟩

set_option maxHeartbeats 2000000 in
set_option maxRecDepth 100000 in
theorem law6 (K : Nat) (a0 a1 a2 a3 a4 a5 : Int) (s1 s2 : Nat) (A3 : Option Addr) (c3 : Nat) (b3 : List (List Int)) (A4 : Option Addr) (c4 : Nat) (b4 : List Int) (A5 : Option Addr) (c5 : Nat) (b5 : List Int) (w : World) (h3 : CL w A3 b3) (e3 : b3.length ≤ c3) (h4 : CB w A4 b4) (e4 : b4.length ≤ c4) (h5 : CB w A5 b5) (e5 : b5.length ≤ c5) (z3 : laws_zzFits2.f K b3 = some true) (t4 : decide (2147483647 < (b4.length : Int)) = false) (t5 : decide (2147483647 < (b5.length : Int)) = false) (p3 : laws_logSmall.f K b3 = some true) (u4 : decide (100000 < (b4.length : Int)) = false) (n : Int) (q : List Int) (hi : ∀ W : World, Below w.heap.size w W → Calls Tryd.prog 23 #[.agg #[.int .i64 a0, .int .i64 a1, .int .i64 a2, .int .u64 a3, .int .u64 a4, .int .u64 a5], .int .u64 (s1 : Int), .int .u64 (s2 : Int), .slice A3 b3.length c3, .slice A4 b4.length c4, .slice A5 b5.length c5] W fun e W' => ∃ v2, e = .returned (.tuple #[.int .i64 n, v2]) ∧ Kd.R (Kd.int .u8) 5 W' W.heap.size (fun _ => True) v2 q ∧ Below W.heap.size W W') (hsx : ∀ W : World, Below w.heap.size w W → Calls Tryd.prog 24 #[.agg #[.int .i64 a0, .int .i64 a1, .int .i64 a2, .int .u64 a3, .int .u64 a4, .int .u64 a5], .int .u64 (s1 : Int), .int .u64 (s2 : Int), .slice A3 b3.length c3, .slice A4 b4.length c4, .slice A5 b5.length c5] W fun e W' => ∃ A cc, e = .returned (.tuple #[.int .i64 n, .slice A q.length cc]) ∧ q.length ≤ cc ∧ CB W' A q ∧ Below W.heap.size W W') (q1 : (n != 1) = true) :
    Calls Tryd.prog 5 #[.agg #[.int .i64 a0, .int .i64 a1, .int .i64 a2, .int .u64 a3, .int .u64 a4, .int .u64 a5], .int .u64 (s1 : Int), .int .u64 (s2 : Int), .slice A3 b3.length c3, .slice A4 b4.length c4, .slice A5 b5.length c5] w fun e w' => e = .returned (.bool true) ∧ Below w.heap.size w w' := by
  have h3_ := Aside0.mk h3
  have h4_ := Aside0.mk h4
  have h5_ := Aside0.mk h5
  clear h3 h4 h5
  have _u := And.intro e3 (And.intro e4 (And.intro e5 (And.intro h3_ (And.intro h4_ (And.intro h5_ (Eq.refl K))))))
  clear _u
  have Z3 := Aside0.mk z3
  clear z3
  have P3 := Aside0.mk p3
  clear p3
  have HI := Aside0.mk hi
  clear hi
  have HSX := Aside0.mk hsx
  clear hsx
  have q0 : (n == n) = true := by simp
  have HB := Aside0.mk (below_alloc (Below.refl w.heap.size w) (.cells #[.int .i64 a0, .int .i64 a1, .int .i64 a2, .int .u64 a3, .int .u64 a4, .int .u64 a5] 24))
  have HX := Aside0.mk (heap_alloc_new w (.cells #[.int .i64 a0, .int .i64 a1, .int .i64 a2, .int .u64 a3, .int .u64 a4, .int .u64 a5] 24))
  go_enter Tryd.func5, Tryd.ntmps5
  go_wp2_with fail
  go_wp2_with (first
    | (go_at_call 13; (with_reducible refine (laws_zzFits2.calls K _ _ b3 _ _ (Kd.C_below h3_.out HB.out) e3 Z3.out).mono ?_); rintro e w1 ⟨rfl, hd⟩; have hb := hd.below; clear hd; have HB1 := Aside0.mk (below_then HB.out HB.out.size hb); have HX1 := Aside0.mk (blk_below HX.out hb); clear HB HX hb; have HB := HB1; have HX := HX1; clear HB1 HX1; (try clear hk0 hk1 hk2 hk3 hk4 hk5); obtain ⟨hk0, hk1, hk2, hk3, hk4, hk5⟩ := box6 HX.out)
    | (go_at_call 15; (with_reducible refine (laws_logSmall.calls K _ _ b3 _ _ (Kd.C_below h3_.out HB.out) e3 P3.out).mono ?_); rintro e w4 ⟨rfl, hd⟩; have hb := hd.below; clear hd; have HB1 := Aside0.mk (below_then HB.out HB.out.size hb); have HX1 := Aside0.mk (blk_below HX.out hb); clear HB HX hb; have HB := HB1; have HX := HX1; clear HB1 HX1; (try clear hk0 hk1 hk2 hk3 hk4 hk5); obtain ⟨hk0, hk1, hk2, hk3, hk4, hk5⟩ := box6 HX.out)
    | (go_at_call 23; (with_reducible refine (HI.out _ HB.out).mono ?_); rintro e w6 ⟨v1, rfl, hR, hb⟩; obtain ⟨Ar, cr, rfl, hlr, hCr⟩ := Kd.R_reads hR; have HCR := Aside0.mk hCr; have HLR := Aside0.mk hlr; clear hR hCr hlr; have HB1 := Aside0.mk (below_then HB.out HB.out.size hb); have HX1 := Aside0.mk (blk_below HX.out hb); clear HB HX hb; have HB := HB1; have HX := HX1; clear HB1 HX1; (try clear hk0 hk1 hk2 hk3 hk4 hk5); obtain ⟨hk0, hk1, hk2, hk3, hk4, hk5⟩ := box6 HX.out)
    | (go_at_call 24; (with_reducible refine (HSX.out _ HB.out).mono ?_); rintro e w7 ⟨Aq, cq, rfl, hlq, hCq, hb⟩; have HCR := Aside0.mk (Kd.C_below HCR.out hb); have HCQ := Aside0.mk hCq; have HLQ := Aside0.mk hlq; clear hCq hlq; have HB1 := Aside0.mk (below_then HB.out HB.out.size hb); have HX1 := Aside0.mk (blk_below HX.out hb); clear HB HX hb; have HB := HB1; have HX := HX1; clear HB1 HX1; (try clear hk0 hk1 hk2 hk3 hk4 hk5); obtain ⟨hk0, hk1, hk2, hk3, hk4, hk5⟩ := box6 HX.out))
  go_ret
  exact ⟨rfl, HB.out⟩

set_option maxHeartbeats 2000000 in
set_option maxRecDepth 100000 in
theorem law7 (K : Nat) (a0 a1 a2 a3 a4 a5 : Int) (s1 s2 : Nat) (A3 : Option Addr) (c3 : Nat) (b3 : List (List Int)) (A4 : Option Addr) (c4 : Nat) (b4 : List Int) (A5 : Option Addr) (c5 : Nat) (b5 : List Int) (w : World) (h3 : CL w A3 b3) (e3 : b3.length ≤ c3) (h4 : CB w A4 b4) (e4 : b4.length ≤ c4) (h5 : CB w A5 b5) (e5 : b5.length ≤ c5) (z3 : laws_zzFits2.f K b3 = some true) (t4 : decide (2147483647 < (b4.length : Int)) = false) (t5 : decide (2147483647 < (b5.length : Int)) = false) (p3 : laws_logSmall.f K b3 = some true) (u4 : decide (100000 < (b4.length : Int)) = false) (n : Int) (q : List Int) (hi : ∀ W : World, Below w.heap.size w W → Calls Tryd.prog 23 #[.agg #[.int .i64 a0, .int .i64 a1, .int .i64 a2, .int .u64 a3, .int .u64 a4, .int .u64 a5], .int .u64 (s1 : Int), .int .u64 (s2 : Int), .slice A3 b3.length c3, .slice A4 b4.length c4, .slice A5 b5.length c5] W fun e W' => ∃ v2, e = .returned (.tuple #[.int .i64 n, v2]) ∧ Kd.R (Kd.int .u8) 5 W' W.heap.size (fun _ => True) v2 q ∧ Below W.heap.size W W') (hsx : ∀ W : World, Below w.heap.size w W → Calls Tryd.prog 24 #[.agg #[.int .i64 a0, .int .i64 a1, .int .i64 a2, .int .u64 a3, .int .u64 a4, .int .u64 a5], .int .u64 (s1 : Int), .int .u64 (s2 : Int), .slice A3 b3.length c3, .slice A4 b4.length c4, .slice A5 b5.length c5] W fun e W' => ∃ A cc, e = .returned (.tuple #[.int .i64 n, .slice A q.length cc]) ∧ q.length ≤ cc ∧ CB W' A q ∧ Below W.heap.size W W') (q1 : (n != 1) = false) :
    Calls Tryd.prog 5 #[.agg #[.int .i64 a0, .int .i64 a1, .int .i64 a2, .int .u64 a3, .int .u64 a4, .int .u64 a5], .int .u64 (s1 : Int), .int .u64 (s2 : Int), .slice A3 b3.length c3, .slice A4 b4.length c4, .slice A5 b5.length c5] w fun e w' => e = .returned (.bool true) ∧ Below w.heap.size w w' := by
  have h3_ := Aside0.mk h3
  have h4_ := Aside0.mk h4
  have h5_ := Aside0.mk h5
  clear h3 h4 h5
  have _u := And.intro e3 (And.intro e4 (And.intro e5 (And.intro h3_ (And.intro h4_ (And.intro h5_ (Eq.refl K))))))
  clear _u
  have Z3 := Aside0.mk z3
  clear z3
  have P3 := Aside0.mk p3
  clear p3
  have HI := Aside0.mk hi
  clear hi
  have HSX := Aside0.mk hsx
  clear hsx
  have q0 : (n == n) = true := by simp
  have ST : Aside0 (spec_SameText.f q q = some true) := ⟨congrArg some BEq.rfl⟩
  have HB := Aside0.mk (below_alloc (Below.refl w.heap.size w) (.cells #[.int .i64 a0, .int .i64 a1, .int .i64 a2, .int .u64 a3, .int .u64 a4, .int .u64 a5] 24))
  have HX := Aside0.mk (heap_alloc_new w (.cells #[.int .i64 a0, .int .i64 a1, .int .i64 a2, .int .u64 a3, .int .u64 a4, .int .u64 a5] 24))
  go_enter Tryd.func5, Tryd.ntmps5
  go_wp2_with fail
  go_wp2_with (first
    | (go_at_call 13; (with_reducible refine (laws_zzFits2.calls K _ _ b3 _ _ (Kd.C_below h3_.out HB.out) e3 Z3.out).mono ?_); rintro e w1 ⟨rfl, hd⟩; have hb := hd.below; clear hd; have HB1 := Aside0.mk (below_then HB.out HB.out.size hb); have HX1 := Aside0.mk (blk_below HX.out hb); clear HB HX hb; have HB := HB1; have HX := HX1; clear HB1 HX1; (try clear hk0 hk1 hk2 hk3 hk4 hk5); obtain ⟨hk0, hk1, hk2, hk3, hk4, hk5⟩ := box6 HX.out)
    | (go_at_call 15; (with_reducible refine (laws_logSmall.calls K _ _ b3 _ _ (Kd.C_below h3_.out HB.out) e3 P3.out).mono ?_); rintro e w4 ⟨rfl, hd⟩; have hb := hd.below; clear hd; have HB1 := Aside0.mk (below_then HB.out HB.out.size hb); have HX1 := Aside0.mk (blk_below HX.out hb); clear HB HX hb; have HB := HB1; have HX := HX1; clear HB1 HX1; (try clear hk0 hk1 hk2 hk3 hk4 hk5); obtain ⟨hk0, hk1, hk2, hk3, hk4, hk5⟩ := box6 HX.out)
    | (go_at_call 23; (with_reducible refine (HI.out _ HB.out).mono ?_); rintro e w6 ⟨v1, rfl, hR, hb⟩; obtain ⟨Ar, cr, rfl, hlr, hCr⟩ := Kd.R_reads hR; have HCR := Aside0.mk hCr; have HLR := Aside0.mk hlr; clear hR hCr hlr; have HB1 := Aside0.mk (below_then HB.out HB.out.size hb); have HX1 := Aside0.mk (blk_below HX.out hb); clear HB HX hb; have HB := HB1; have HX := HX1; clear HB1 HX1; (try clear hk0 hk1 hk2 hk3 hk4 hk5); obtain ⟨hk0, hk1, hk2, hk3, hk4, hk5⟩ := box6 HX.out)
    | (go_at_call 24; (with_reducible refine (HSX.out _ HB.out).mono ?_); rintro e w7 ⟨Aq, cq, rfl, hlq, hCq, hb⟩; have HCR := Aside0.mk (Kd.C_below HCR.out hb); have HCQ := Aside0.mk hCq; have HLQ := Aside0.mk hlq; clear hCq hlq; have HB1 := Aside0.mk (below_then HB.out HB.out.size hb); have HX1 := Aside0.mk (blk_below HX.out hb); clear HB HX hb; have HB := HB1; have HX := HX1; clear HB1 HX1; (try clear hk0 hk1 hk2 hk3 hk4 hk5); obtain ⟨hk0, hk1, hk2, hk3, hk4, hk5⟩ := box6 HX.out)
    | (go_at_call 17; (with_reducible refine (spec_SameText.calls _ _ q _ _ q _ _ HCR.out HLR.out HCQ.out HLQ.out ST.out).mono ?_); rintro e w9 ⟨rfl, hd⟩; have hb := hd.below; clear hd; have HB1 := Aside0.mk (below_then HB.out HB.out.size hb); have HX1 := Aside0.mk (blk_below HX.out hb); clear HB HX hb; have HB := HB1; have HX := HX1; clear HB1 HX1; (try clear hk0 hk1 hk2 hk3 hk4 hk5); obtain ⟨hk0, hk1, hk2, hk3, hk4, hk5⟩ := box6 HX.out))
  go_ret
  exact ⟨rfl, HB.out⟩

theorem law_all (K : Nat) (a0 a1 a2 a3 a4 a5 : Int) (s1 s2 : Nat) (hs1 : s1 < 18446744073709551616) (hs2 : s2 < 18446744073709551616) (A3 : Option Addr) (c3 : Nat) (b3 : List (List Int)) (A4 : Option Addr) (c4 : Nat) (b4 : List Int) (A5 : Option Addr) (c5 : Nat) (b5 : List Int) (w : World) (h3 : CL w A3 b3) (e3 : b3.length ≤ c3) (h4 : CB w A4 b4) (e4 : b4.length ≤ c4) (h5 : CB w A5 b5) (e5 : b5.length ≤ c5) (HG : Glob w) (zb pb : Bool) (z3 : laws_zzFits2.f K b3 = some zb) (p3 : zb = true → laws_logSmall.f K b3 = some pb) (hsm : pb = true → b3.length ≤ 300 ∧ ∀ h ∈ b3, h.length ≤ 5000) :
    Calls Tryd.prog 5 #[.agg #[.int .i64 a0, .int .i64 a1, .int .i64 a2, .int .u64 a3, .int .u64 a4, .int .u64 a5], .int .u64 (s1 : Int), .int .u64 (s2 : Int), .slice A3 b3.length c3, .slice A4 b4.length c4, .slice A5 b5.length c5] w fun e w' => e = .returned (.bool true) ∧ Below w.heap.size w w' := by
  cases zb with
  | false => exact law1 K a0 a1 a2 a3 a4 a5 s1 s2 A3 c3 b3 A4 c4 b4 A5 c5 b5 w h3 e3 h4 e4 h5 e5 z3
  | true =>
    have p3 := p3 rfl
    by_cases k4 : 2147483647 < b4.length
    · exact law2 K a0 a1 a2 a3 a4 a5 s1 s2 A3 c3 b3 A4 c4 b4 A5 c5 b5 w h3 e3 h4 e4 h5 e5 z3 (decide_eq_true (by omega))
    have t4 : decide (2147483647 < (b4.length : Int)) = false := decide_eq_false (by omega)
    by_cases k5 : 2147483647 < b5.length
    · exact law3 K a0 a1 a2 a3 a4 a5 s1 s2 A3 c3 b3 A4 c4 b4 A5 c5 b5 w h3 e3 h4 e4 h5 e5 z3 t4 (decide_eq_true (by omega))
    have t5 : decide (2147483647 < (b5.length : Int)) = false := decide_eq_false (by omega)
    cases pb with
    | false => exact law4 K a0 a1 a2 a3 a4 a5 s1 s2 A3 c3 b3 A4 c4 b4 A5 c5 b5 w h3 e3 h4 e4 h5 e5 z3 t4 t5 p3
    | true =>
      obtain ⟨hL, hrow⟩ := hsm rfl
      by_cases k6 : 100000 < b4.length
      · exact law5 K a0 a1 a2 a3 a4 a5 s1 s2 A3 c3 b3 A4 c4 b4 A5 c5 b5 w h3 e3 h4 e4 h5 e5 z3 t4 t5 p3 (decide_eq_true (by omega))
      have u4 : decide (100000 < (b4.length : Int)) = false := decide_eq_false (by omega)
      have hi := fun (W : World) (hb : Below w.heap.size w W) => impl_vc_calls a0 a1 a2 a3 a4 a5 s1 s2 hs1 hs2 A4 c4 b4 A3 c3 b3 A5 c5 b5 W (Glob.below HG hb) (Kd.C_below h4 hb) (Kd.C_below h3 hb) e3 (Kd.C_below h5 hb) (by omega) hL hrow (by omega)
      have hsx := fun (W : World) (hb : Below w.heap.size w W) => spec_vc_calls a0 a1 a2 a3 a4 a5 s1 s2 A3 c3 b3 A4 c4 b4 A5 c5 b5 W hs2 (Kd.C_below h3 hb) e3 (Kd.C_below h4 hb) e4 (Kd.C_below h5 hb) e5 (by omega) hrow
      generalize vcF a0 a2 a5 s1 s2 b3 b4 b5 = nq at hi hsx
      by_cases k7 : nq.1 = 1
      · exact law7 K a0 a1 a2 a3 a4 a5 s1 s2 A3 c3 b3 A4 c4 b4 A5 c5 b5 w h3 e3 h4 e4 h5 e5 z3 t4 t5 p3 u4 nq.1 nq.2 hi hsx (bne_eq_false_iff_eq.2 k7)
      · exact law6 K a0 a1 a2 a3 a4 a5 s1 s2 A3 c3 b3 A4 c4 b4 A5 c5 b5 w h3 e3 h4 e4 h5 e5 z3 t4 t5 p3 u4 nq.1 nq.2 hi hsx (bne_iff_ne.2 k7)
end Go.Proofs.YtfhcpniibiobgaaDoor.Qf
