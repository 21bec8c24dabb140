/- The law FnIncludedStays, walked (printed by gen_lawis.py). -/
import Derived.Test.YtfhcpniibiobgaaDoorJn
namespace Go.Proofs.YtfhcpniibiobgaaDoor.Qf
open Go.RowKit Go.Proofs.YtfhcpniibiobgaaDoorW.PrintWords Go.Proofs.YtfhcpniibiobgaaDoorW.PrintLast Go.Proofs.YtfhcpniibiobgaaDoorW.PrintMore
open Hs (CB CL at_L at_B infoB infoL R_of_blk)

theorem box6 {w : World} {g : Nat} {a0 a1 a2 a3 a4 a5 : Int} (h : w.heap[g]? = some (.cells #[.int .i64 a0, .int .i64 a1, .int .i64 a2, .int .u64 a3, .int .u64 a4, .int .u64 a5] 24 (0, 0))) : w.cell? ⟨g, 0, none⟩ = some (.int .i64 a0) ∧ w.cell? ⟨g, 1, none⟩ = some (.int .i64 a1) ∧ w.cell? ⟨g, 2, none⟩ = some (.int .i64 a2) ∧ w.cell? ⟨g, 3, none⟩ = some (.int .u64 a3) ∧ w.cell? ⟨g, 4, none⟩ = some (.int .u64 a4) ∧ w.cell? ⟨g, 5, none⟩ = some (.int .u64 a5) :=
  ⟨(blk_cell h 0).trans rfl, (blk_cell h 1).trans rfl, (blk_cell h 2).trans rfl, (blk_cell h 3).trans rfl, (blk_cell h 4).trans rfl, (blk_cell h 5).trans rfl⟩
/-- The reference's root of rows that came in. -/
theorem root_arg {k : Nat} {a0 a1 a2 a3 a4 a5 : Int} {A : Option Addr} {c : Nat} {L : List (List Int)} {r : List Int} {w : World} (h : CL w A L) (hc : L.length ≤ c) (hr : spec_Root.f k a0 a1 a2 a3 a4 a5 L = some r) :
    Calls Tryd.prog 37 #[.agg #[.int .i64 a0, .int .i64 a1, .int .i64 a2, .int .u64 a3, .int .u64 a4, .int .u64 a5], .slice A L.length c] w fun en w' => ∃ A' c', en = .returned (.slice A' r.length c') ∧ r.length ≤ c' ∧ CB w' A' r ∧ Below w.heap.size w w' :=
  (spec_Root.calls k a0 a1 a2 a3 a4 a5 (fun k => k < w.heap.size) A c L r w (Kd.V_mk hc (Kd.C_F (Kd.heap_slice _ (Kd.heap_int _)) h)) hr).mono fun _ _ ⟨v, he, hv, hb⟩ => by
    obtain ⟨A', c', rfl⟩ := Kd.V_slice hv
    obtain ⟨_, h2, h3⟩ := Kd.V_reads' hv
    exact ⟨A', c', he, h2, h3, hb⟩

set_option maxHeartbeats 2000000 in
set_option maxRecDepth 100000 in
theorem is1 (K : Nat) (a0 a1 a2 a3 a4 a5 : Int) (ix s1 : Nat) (A1 : Option Addr) (c1 : Nat) (b1 : List (List Int)) (A4 : Option Addr) (c4 : Nat) (b4 : List Int) (A5 : Option Addr) (c5 : Nat) (b5 : List (List Int)) (A6 : Option Addr) (c6 : Nat) (b6 : List Int) (A7 : Option Addr) (c7 : Nat) (b7 : List (List Int)) (w : World) (h1 : CL w A1 b1) (e1 : b1.length ≤ c1) (h4 : CB w A4 b4) (e4 : b4.length ≤ c4) (h5 : CL w A5 b5) (e5 : b5.length ≤ c5) (h6 : CB w A6 b6) (e6 : b6.length ≤ c6) (h7 : CL w A7 b7) (e7 : b7.length ≤ c7) (z1 : laws_zzFits2.f K b1 = some false) :
    Calls Tryd.prog 10 #[.agg #[.int .i64 a0, .int .i64 a1, .int .i64 a2, .int .u64 a3, .int .u64 a4, .int .u64 a5], .slice A1 b1.length c1, .int .u64 (ix : Int), .int .u64 (s1 : Int), .slice A4 b4.length c4, .slice A5 b5.length c5, .slice A6 b6.length c6, .slice A7 b7.length c7] w fun en w' => en = .returned (.bool true) ∧ Below w.heap.size w w' := by
  have h1_ := Aside0.mk h1
  have h4_ := Aside0.mk h4
  have h5_ := Aside0.mk h5
  have h6_ := Aside0.mk h6
  have h7_ := Aside0.mk h7
  clear h1 h4 h5 h6 h7
  have _u := And.intro e1 (And.intro e4 (And.intro e5 (And.intro e6 (And.intro e7 (Eq.refl K)))))
  clear _u
  have HB : Aside0 (Below w.heap.size w (w.alloc (.cells #[.int .i64 a0, .int .i64 a1, .int .i64 a2, .int .u64 a3, .int .u64 a4, .int .u64 a5] 24))) := ⟨below_alloc (Below.refl _ _) _⟩
  have HX : Aside0 ((w.alloc (.cells #[.int .i64 a0, .int .i64 a1, .int .i64 a2, .int .u64 a3, .int .u64 a4, .int .u64 a5] 24)).heap[w.heap.size]? = some (.cells #[.int .i64 a0, .int .i64 a1, .int .i64 a2, .int .u64 a3, .int .u64 a4, .int .u64 a5] 24 (0, 0))) := ⟨heap_alloc_new w (.cells #[.int .i64 a0, .int .i64 a1, .int .i64 a2, .int .u64 a3, .int .u64 a4, .int .u64 a5] 24)⟩
  have Z1 := Aside0.mk z1
  clear z1
  go_enter Tryd.func10, Tryd.ntmps10
  go_wp2_with fail
  go_wp2_with (first
    | (go_at_call 13; (with_reducible refine (laws_zzFits2.calls K A1 c1 b1 _ _ (Kd.C_below h1_.out HB.out) e1 Z1.out).mono ?_); rintro en wz1 ⟨rfl, hd⟩; (first | have hb := hd.below | have hb := hd); clear hd; have HB1 := Aside0.mk (below_then HB.out HB.out.size hb); have HX1 := Aside0.mk (blk_below HX.out hb); clear HB HX hb; have HB := HB1; have HX := HX1; clear HB1 HX1; (try clear hk0 hk1 hk2 hk3 hk4 hk5); obtain ⟨hk0, hk1, hk2, hk3, hk4, hk5⟩ := box6 HX.out))
  go_ret
  exact ⟨rfl, HB.out⟩

set_option maxHeartbeats 2000000 in
set_option maxRecDepth 100000 in
theorem is2 (K : Nat) (a0 a1 a2 a3 a4 a5 : Int) (ix s1 : Nat) (A1 : Option Addr) (c1 : Nat) (b1 : List (List Int)) (A4 : Option Addr) (c4 : Nat) (b4 : List Int) (A5 : Option Addr) (c5 : Nat) (b5 : List (List Int)) (A6 : Option Addr) (c6 : Nat) (b6 : List Int) (A7 : Option Addr) (c7 : Nat) (b7 : List (List Int)) (w : World) (h1 : CL w A1 b1) (e1 : b1.length ≤ c1) (h4 : CB w A4 b4) (e4 : b4.length ≤ c4) (h5 : CL w A5 b5) (e5 : b5.length ≤ c5) (h6 : CB w A6 b6) (e6 : b6.length ≤ c6) (h7 : CL w A7 b7) (e7 : b7.length ≤ c7) (z1 : laws_zzFits2.f K b1 = some true) (t4 : decide (2147483647 < (b4.length : Int)) = true) :
    Calls Tryd.prog 10 #[.agg #[.int .i64 a0, .int .i64 a1, .int .i64 a2, .int .u64 a3, .int .u64 a4, .int .u64 a5], .slice A1 b1.length c1, .int .u64 (ix : Int), .int .u64 (s1 : Int), .slice A4 b4.length c4, .slice A5 b5.length c5, .slice A6 b6.length c6, .slice A7 b7.length c7] w fun en w' => en = .returned (.bool true) ∧ Below w.heap.size w w' := by
  have h1_ := Aside0.mk h1
  have h4_ := Aside0.mk h4
  have h5_ := Aside0.mk h5
  have h6_ := Aside0.mk h6
  have h7_ := Aside0.mk h7
  clear h1 h4 h5 h6 h7
  have _u := And.intro e1 (And.intro e4 (And.intro e5 (And.intro e6 (And.intro e7 (Eq.refl K)))))
  clear _u
  have HB : Aside0 (Below w.heap.size w (w.alloc (.cells #[.int .i64 a0, .int .i64 a1, .int .i64 a2, .int .u64 a3, .int .u64 a4, .int .u64 a5] 24))) := ⟨below_alloc (Below.refl _ _) _⟩
  have HX : Aside0 ((w.alloc (.cells #[.int .i64 a0, .int .i64 a1, .int .i64 a2, .int .u64 a3, .int .u64 a4, .int .u64 a5] 24)).heap[w.heap.size]? = some (.cells #[.int .i64 a0, .int .i64 a1, .int .i64 a2, .int .u64 a3, .int .u64 a4, .int .u64 a5] 24 (0, 0))) := ⟨heap_alloc_new w (.cells #[.int .i64 a0, .int .i64 a1, .int .i64 a2, .int .u64 a3, .int .u64 a4, .int .u64 a5] 24)⟩
  have Z1 := Aside0.mk z1
  clear z1
  go_enter Tryd.func10, Tryd.ntmps10
  go_wp2_with fail
  go_wp2_with (first
    | (go_at_call 13; (with_reducible refine (laws_zzFits2.calls K A1 c1 b1 _ _ (Kd.C_below h1_.out HB.out) e1 Z1.out).mono ?_); rintro en wz1 ⟨rfl, hd⟩; (first | have hb := hd.below | have hb := hd); clear hd; have HB1 := Aside0.mk (below_then HB.out HB.out.size hb); have HX1 := Aside0.mk (blk_below HX.out hb); clear HB HX hb; have HB := HB1; have HX := HX1; clear HB1 HX1; (try clear hk0 hk1 hk2 hk3 hk4 hk5); obtain ⟨hk0, hk1, hk2, hk3, hk4, hk5⟩ := box6 HX.out))
  go_ret
  exact ⟨rfl, HB.out⟩

set_option maxHeartbeats 2000000 in
set_option maxRecDepth 100000 in
theorem is3 (K : Nat) (a0 a1 a2 a3 a4 a5 : Int) (ix s1 : Nat) (A1 : Option Addr) (c1 : Nat) (b1 : List (List Int)) (A4 : Option Addr) (c4 : Nat) (b4 : List Int) (A5 : Option Addr) (c5 : Nat) (b5 : List (List Int)) (A6 : Option Addr) (c6 : Nat) (b6 : List Int) (A7 : Option Addr) (c7 : Nat) (b7 : List (List Int)) (w : World) (h1 : CL w A1 b1) (e1 : b1.length ≤ c1) (h4 : CB w A4 b4) (e4 : b4.length ≤ c4) (h5 : CL w A5 b5) (e5 : b5.length ≤ c5) (h6 : CB w A6 b6) (e6 : b6.length ≤ c6) (h7 : CL w A7 b7) (e7 : b7.length ≤ c7) (z1 : laws_zzFits2.f K b1 = some true) (t4 : decide (2147483647 < (b4.length : Int)) = false) (z5 : laws_zzFits2.f K b5 = some false) :
    Calls Tryd.prog 10 #[.agg #[.int .i64 a0, .int .i64 a1, .int .i64 a2, .int .u64 a3, .int .u64 a4, .int .u64 a5], .slice A1 b1.length c1, .int .u64 (ix : Int), .int .u64 (s1 : Int), .slice A4 b4.length c4, .slice A5 b5.length c5, .slice A6 b6.length c6, .slice A7 b7.length c7] w fun en w' => en = .returned (.bool true) ∧ Below w.heap.size w w' := by
  have h1_ := Aside0.mk h1
  have h4_ := Aside0.mk h4
  have h5_ := Aside0.mk h5
  have h6_ := Aside0.mk h6
  have h7_ := Aside0.mk h7
  clear h1 h4 h5 h6 h7
  have _u := And.intro e1 (And.intro e4 (And.intro e5 (And.intro e6 (And.intro e7 (Eq.refl K)))))
  clear _u
  have HB : Aside0 (Below w.heap.size w (w.alloc (.cells #[.int .i64 a0, .int .i64 a1, .int .i64 a2, .int .u64 a3, .int .u64 a4, .int .u64 a5] 24))) := ⟨below_alloc (Below.refl _ _) _⟩
  have HX : Aside0 ((w.alloc (.cells #[.int .i64 a0, .int .i64 a1, .int .i64 a2, .int .u64 a3, .int .u64 a4, .int .u64 a5] 24)).heap[w.heap.size]? = some (.cells #[.int .i64 a0, .int .i64 a1, .int .i64 a2, .int .u64 a3, .int .u64 a4, .int .u64 a5] 24 (0, 0))) := ⟨heap_alloc_new w (.cells #[.int .i64 a0, .int .i64 a1, .int .i64 a2, .int .u64 a3, .int .u64 a4, .int .u64 a5] 24)⟩
  have Z1 := Aside0.mk z1
  clear z1
  have Z5 := Aside0.mk z5
  clear z5
  go_enter Tryd.func10, Tryd.ntmps10
  go_wp2_with fail
  go_wp2_with (first
    | (go_at_call 13; (with_reducible refine (laws_zzFits2.calls K A1 c1 b1 _ _ (Kd.C_below h1_.out HB.out) e1 Z1.out).mono ?_); rintro en wz1 ⟨rfl, hd⟩; (first | have hb := hd.below | have hb := hd); clear hd; have HB1 := Aside0.mk (below_then HB.out HB.out.size hb); have HX1 := Aside0.mk (blk_below HX.out hb); clear HB HX hb; have HB := HB1; have HX := HX1; clear HB1 HX1; (try clear hk0 hk1 hk2 hk3 hk4 hk5); obtain ⟨hk0, hk1, hk2, hk3, hk4, hk5⟩ := box6 HX.out)
    | (go_at_call 13; (with_reducible refine (laws_zzFits2.calls K A5 c5 b5 _ _ (Kd.C_below h5_.out HB.out) e5 Z5.out).mono ?_); rintro en wz5 ⟨rfl, hd⟩; (first | have hb := hd.below | have hb := hd); clear hd; have HB1 := Aside0.mk (below_then HB.out HB.out.size hb); have HX1 := Aside0.mk (blk_below HX.out hb); clear HB HX hb; have HB := HB1; have HX := HX1; clear HB1 HX1; (try clear hk0 hk1 hk2 hk3 hk4 hk5); obtain ⟨hk0, hk1, hk2, hk3, hk4, hk5⟩ := box6 HX.out))
  go_ret
  exact ⟨rfl, HB.out⟩

set_option maxHeartbeats 2000000 in
set_option maxRecDepth 100000 in
theorem is4 (K : Nat) (a0 a1 a2 a3 a4 a5 : Int) (ix s1 : Nat) (A1 : Option Addr) (c1 : Nat) (b1 : List (List Int)) (A4 : Option Addr) (c4 : Nat) (b4 : List Int) (A5 : Option Addr) (c5 : Nat) (b5 : List (List Int)) (A6 : Option Addr) (c6 : Nat) (b6 : List Int) (A7 : Option Addr) (c7 : Nat) (b7 : List (List Int)) (w : World) (h1 : CL w A1 b1) (e1 : b1.length ≤ c1) (h4 : CB w A4 b4) (e4 : b4.length ≤ c4) (h5 : CL w A5 b5) (e5 : b5.length ≤ c5) (h6 : CB w A6 b6) (e6 : b6.length ≤ c6) (h7 : CL w A7 b7) (e7 : b7.length ≤ c7) (z1 : laws_zzFits2.f K b1 = some true) (t4 : decide (2147483647 < (b4.length : Int)) = false) (z5 : laws_zzFits2.f K b5 = some true) (t6 : decide (2147483647 < (b6.length : Int)) = true) :
    Calls Tryd.prog 10 #[.agg #[.int .i64 a0, .int .i64 a1, .int .i64 a2, .int .u64 a3, .int .u64 a4, .int .u64 a5], .slice A1 b1.length c1, .int .u64 (ix : Int), .int .u64 (s1 : Int), .slice A4 b4.length c4, .slice A5 b5.length c5, .slice A6 b6.length c6, .slice A7 b7.length c7] w fun en w' => en = .returned (.bool true) ∧ Below w.heap.size w w' := by
  have h1_ := Aside0.mk h1
  have h4_ := Aside0.mk h4
  have h5_ := Aside0.mk h5
  have h6_ := Aside0.mk h6
  have h7_ := Aside0.mk h7
  clear h1 h4 h5 h6 h7
  have _u := And.intro e1 (And.intro e4 (And.intro e5 (And.intro e6 (And.intro e7 (Eq.refl K)))))
  clear _u
  have HB : Aside0 (Below w.heap.size w (w.alloc (.cells #[.int .i64 a0, .int .i64 a1, .int .i64 a2, .int .u64 a3, .int .u64 a4, .int .u64 a5] 24))) := ⟨below_alloc (Below.refl _ _) _⟩
  have HX : Aside0 ((w.alloc (.cells #[.int .i64 a0, .int .i64 a1, .int .i64 a2, .int .u64 a3, .int .u64 a4, .int .u64 a5] 24)).heap[w.heap.size]? = some (.cells #[.int .i64 a0, .int .i64 a1, .int .i64 a2, .int .u64 a3, .int .u64 a4, .int .u64 a5] 24 (0, 0))) := ⟨heap_alloc_new w (.cells #[.int .i64 a0, .int .i64 a1, .int .i64 a2, .int .u64 a3, .int .u64 a4, .int .u64 a5] 24)⟩
  have Z1 := Aside0.mk z1
  clear z1
  have Z5 := Aside0.mk z5
  clear z5
  go_enter Tryd.func10, Tryd.ntmps10
  go_wp2_with fail
  go_wp2_with (first
    | (go_at_call 13; (with_reducible refine (laws_zzFits2.calls K A1 c1 b1 _ _ (Kd.C_below h1_.out HB.out) e1 Z1.out).mono ?_); rintro en wz1 ⟨rfl, hd⟩; (first | have hb := hd.below | have hb := hd); clear hd; have HB1 := Aside0.mk (below_then HB.out HB.out.size hb); have HX1 := Aside0.mk (blk_below HX.out hb); clear HB HX hb; have HB := HB1; have HX := HX1; clear HB1 HX1; (try clear hk0 hk1 hk2 hk3 hk4 hk5); obtain ⟨hk0, hk1, hk2, hk3, hk4, hk5⟩ := box6 HX.out)
    | (go_at_call 13; (with_reducible refine (laws_zzFits2.calls K A5 c5 b5 _ _ (Kd.C_below h5_.out HB.out) e5 Z5.out).mono ?_); rintro en wz5 ⟨rfl, hd⟩; (first | have hb := hd.below | have hb := hd); clear hd; have HB1 := Aside0.mk (below_then HB.out HB.out.size hb); have HX1 := Aside0.mk (blk_below HX.out hb); clear HB HX hb; have HB := HB1; have HX := HX1; clear HB1 HX1; (try clear hk0 hk1 hk2 hk3 hk4 hk5); obtain ⟨hk0, hk1, hk2, hk3, hk4, hk5⟩ := box6 HX.out))
  go_ret
  exact ⟨rfl, HB.out⟩

set_option maxHeartbeats 2000000 in
set_option maxRecDepth 100000 in
theorem is5 (K : Nat) (a0 a1 a2 a3 a4 a5 : Int) (ix s1 : Nat) (A1 : Option Addr) (c1 : Nat) (b1 : List (List Int)) (A4 : Option Addr) (c4 : Nat) (b4 : List Int) (A5 : Option Addr) (c5 : Nat) (b5 : List (List Int)) (A6 : Option Addr) (c6 : Nat) (b6 : List Int) (A7 : Option Addr) (c7 : Nat) (b7 : List (List Int)) (w : World) (h1 : CL w A1 b1) (e1 : b1.length ≤ c1) (h4 : CB w A4 b4) (e4 : b4.length ≤ c4) (h5 : CL w A5 b5) (e5 : b5.length ≤ c5) (h6 : CB w A6 b6) (e6 : b6.length ≤ c6) (h7 : CL w A7 b7) (e7 : b7.length ≤ c7) (z1 : laws_zzFits2.f K b1 = some true) (t4 : decide (2147483647 < (b4.length : Int)) = false) (z5 : laws_zzFits2.f K b5 = some true) (t6 : decide (2147483647 < (b6.length : Int)) = false) (z7 : laws_zzFits2.f K b7 = some false) :
    Calls Tryd.prog 10 #[.agg #[.int .i64 a0, .int .i64 a1, .int .i64 a2, .int .u64 a3, .int .u64 a4, .int .u64 a5], .slice A1 b1.length c1, .int .u64 (ix : Int), .int .u64 (s1 : Int), .slice A4 b4.length c4, .slice A5 b5.length c5, .slice A6 b6.length c6, .slice A7 b7.length c7] w fun en w' => en = .returned (.bool true) ∧ Below w.heap.size w w' := by
  have h1_ := Aside0.mk h1
  have h4_ := Aside0.mk h4
  have h5_ := Aside0.mk h5
  have h6_ := Aside0.mk h6
  have h7_ := Aside0.mk h7
  clear h1 h4 h5 h6 h7
  have _u := And.intro e1 (And.intro e4 (And.intro e5 (And.intro e6 (And.intro e7 (Eq.refl K)))))
  clear _u
  have HB : Aside0 (Below w.heap.size w (w.alloc (.cells #[.int .i64 a0, .int .i64 a1, .int .i64 a2, .int .u64 a3, .int .u64 a4, .int .u64 a5] 24))) := ⟨below_alloc (Below.refl _ _) _⟩
  have HX : Aside0 ((w.alloc (.cells #[.int .i64 a0, .int .i64 a1, .int .i64 a2, .int .u64 a3, .int .u64 a4, .int .u64 a5] 24)).heap[w.heap.size]? = some (.cells #[.int .i64 a0, .int .i64 a1, .int .i64 a2, .int .u64 a3, .int .u64 a4, .int .u64 a5] 24 (0, 0))) := ⟨heap_alloc_new w (.cells #[.int .i64 a0, .int .i64 a1, .int .i64 a2, .int .u64 a3, .int .u64 a4, .int .u64 a5] 24)⟩
  have Z1 := Aside0.mk z1
  clear z1
  have Z5 := Aside0.mk z5
  clear z5
  have Z7 := Aside0.mk z7
  clear z7
  go_enter Tryd.func10, Tryd.ntmps10
  go_wp2_with fail
  go_wp2_with (first
    | (go_at_call 13; (with_reducible refine (laws_zzFits2.calls K A1 c1 b1 _ _ (Kd.C_below h1_.out HB.out) e1 Z1.out).mono ?_); rintro en wz1 ⟨rfl, hd⟩; (first | have hb := hd.below | have hb := hd); clear hd; have HB1 := Aside0.mk (below_then HB.out HB.out.size hb); have HX1 := Aside0.mk (blk_below HX.out hb); clear HB HX hb; have HB := HB1; have HX := HX1; clear HB1 HX1; (try clear hk0 hk1 hk2 hk3 hk4 hk5); obtain ⟨hk0, hk1, hk2, hk3, hk4, hk5⟩ := box6 HX.out)
    | (go_at_call 13; (with_reducible refine (laws_zzFits2.calls K A5 c5 b5 _ _ (Kd.C_below h5_.out HB.out) e5 Z5.out).mono ?_); rintro en wz5 ⟨rfl, hd⟩; (first | have hb := hd.below | have hb := hd); clear hd; have HB1 := Aside0.mk (below_then HB.out HB.out.size hb); have HX1 := Aside0.mk (blk_below HX.out hb); clear HB HX hb; have HB := HB1; have HX := HX1; clear HB1 HX1; (try clear hk0 hk1 hk2 hk3 hk4 hk5); obtain ⟨hk0, hk1, hk2, hk3, hk4, hk5⟩ := box6 HX.out)
    | (go_at_call 13; (with_reducible refine (laws_zzFits2.calls K A7 c7 b7 _ _ (Kd.C_below h7_.out HB.out) e7 Z7.out).mono ?_); rintro en wz7 ⟨rfl, hd⟩; (first | have hb := hd.below | have hb := hd); clear hd; have HB1 := Aside0.mk (below_then HB.out HB.out.size hb); have HX1 := Aside0.mk (blk_below HX.out hb); clear HB HX hb; have HB := HB1; have HX := HX1; clear HB1 HX1; (try clear hk0 hk1 hk2 hk3 hk4 hk5); obtain ⟨hk0, hk1, hk2, hk3, hk4, hk5⟩ := box6 HX.out))
  go_ret
  exact ⟨rfl, HB.out⟩

set_option maxHeartbeats 2000000 in
set_option maxRecDepth 100000 in
theorem is6 (K : Nat) (a0 a1 a2 a3 a4 a5 : Int) (ix s1 : Nat) (A1 : Option Addr) (c1 : Nat) (b1 : List (List Int)) (A4 : Option Addr) (c4 : Nat) (b4 : List Int) (A5 : Option Addr) (c5 : Nat) (b5 : List (List Int)) (A6 : Option Addr) (c6 : Nat) (b6 : List Int) (A7 : Option Addr) (c7 : Nat) (b7 : List (List Int)) (w : World) (h1 : CL w A1 b1) (e1 : b1.length ≤ c1) (h4 : CB w A4 b4) (e4 : b4.length ≤ c4) (h5 : CL w A5 b5) (e5 : b5.length ≤ c5) (h6 : CB w A6 b6) (e6 : b6.length ≤ c6) (h7 : CL w A7 b7) (e7 : b7.length ≤ c7) (z1 : laws_zzFits2.f K b1 = some true) (t4 : decide (2147483647 < (b4.length : Int)) = false) (z5 : laws_zzFits2.f K b5 = some true) (t6 : decide (2147483647 < (b6.length : Int)) = false) (z7 : laws_zzFits2.f K b7 = some true) (hml : b1.length ≤ 2147483647) (tt : spec_Terms.f a0 a1 a2 a3 a4 a5 = some false) :
    Calls Tryd.prog 10 #[.agg #[.int .i64 a0, .int .i64 a1, .int .i64 a2, .int .u64 a3, .int .u64 a4, .int .u64 a5], .slice A1 b1.length c1, .int .u64 (ix : Int), .int .u64 (s1 : Int), .slice A4 b4.length c4, .slice A5 b5.length c5, .slice A6 b6.length c6, .slice A7 b7.length c7] w fun en w' => en = .returned (.bool true) ∧ Below w.heap.size w w' := by
  have h1_ := Aside0.mk h1
  have h4_ := Aside0.mk h4
  have h5_ := Aside0.mk h5
  have h6_ := Aside0.mk h6
  have h7_ := Aside0.mk h7
  clear h1 h4 h5 h6 h7
  have _u := And.intro e1 (And.intro e4 (And.intro e5 (And.intro e6 (And.intro e7 (Eq.refl K)))))
  clear _u
  have HB : Aside0 (Below w.heap.size w (w.alloc (.cells #[.int .i64 a0, .int .i64 a1, .int .i64 a2, .int .u64 a3, .int .u64 a4, .int .u64 a5] 24))) := ⟨below_alloc (Below.refl _ _) _⟩
  have HX : Aside0 ((w.alloc (.cells #[.int .i64 a0, .int .i64 a1, .int .i64 a2, .int .u64 a3, .int .u64 a4, .int .u64 a5] 24)).heap[w.heap.size]? = some (.cells #[.int .i64 a0, .int .i64 a1, .int .i64 a2, .int .u64 a3, .int .u64 a4, .int .u64 a5] 24 (0, 0))) := ⟨heap_alloc_new w (.cells #[.int .i64 a0, .int .i64 a1, .int .i64 a2, .int .u64 a3, .int .u64 a4, .int .u64 a5] 24)⟩
  have Z1 := Aside0.mk z1
  clear z1
  have Z5 := Aside0.mk z5
  clear z5
  have Z7 := Aside0.mk z7
  clear z7
  have TT := Aside0.mk tt
  clear tt
  have ML := Aside0.mk hml
  clear hml
  have hw : ∀ z : Int, z = (b1.length : Int) → IntKind.u64.wrap z = (b1.length : Int) := fun z hz => by
    rw [hz]
    show (b1.length : Int) % 18446744073709551616 = _
    have := ML.out
    omega
  go_enter Tryd.func10, Tryd.ntmps10
  go_wp2_with fail
  go_wp2_with (first
    | (go_at_call 13; (with_reducible refine (laws_zzFits2.calls K A1 c1 b1 _ _ (Kd.C_below h1_.out HB.out) e1 Z1.out).mono ?_); rintro en wz1 ⟨rfl, hd⟩; (first | have hb := hd.below | have hb := hd); clear hd; have HB1 := Aside0.mk (below_then HB.out HB.out.size hb); have HX1 := Aside0.mk (blk_below HX.out hb); clear HB HX hb; have HB := HB1; have HX := HX1; clear HB1 HX1; (try clear hk0 hk1 hk2 hk3 hk4 hk5); obtain ⟨hk0, hk1, hk2, hk3, hk4, hk5⟩ := box6 HX.out)
    | (go_at_call 13; (with_reducible refine (laws_zzFits2.calls K A5 c5 b5 _ _ (Kd.C_below h5_.out HB.out) e5 Z5.out).mono ?_); rintro en wz5 ⟨rfl, hd⟩; (first | have hb := hd.below | have hb := hd); clear hd; have HB1 := Aside0.mk (below_then HB.out HB.out.size hb); have HX1 := Aside0.mk (blk_below HX.out hb); clear HB HX hb; have HB := HB1; have HX := HX1; clear HB1 HX1; (try clear hk0 hk1 hk2 hk3 hk4 hk5); obtain ⟨hk0, hk1, hk2, hk3, hk4, hk5⟩ := box6 HX.out)
    | (go_at_call 13; (with_reducible refine (laws_zzFits2.calls K A7 c7 b7 _ _ (Kd.C_below h7_.out HB.out) e7 Z7.out).mono ?_); rintro en wz7 ⟨rfl, hd⟩; (first | have hb := hd.below | have hb := hd); clear hd; have HB1 := Aside0.mk (below_then HB.out HB.out.size hb); have HX1 := Aside0.mk (blk_below HX.out hb); clear HB HX hb; have HB := HB1; have HX := HX1; clear HB1 HX1; (try clear hk0 hk1 hk2 hk3 hk4 hk5); obtain ⟨hk0, hk1, hk2, hk3, hk4, hk5⟩ := box6 HX.out)
    | (go_at_call 14; (with_reducible refine (spec_Terms.calls a0 a1 a2 a3 a4 a5 _ _ TT.out).mono ?_); rintro en wt ⟨rfl, hd⟩; (first | have hb := hd.below | have hb := hd); clear hd; have HB1 := Aside0.mk (below_then HB.out HB.out.size hb); have HX1 := Aside0.mk (blk_below HX.out hb); clear HB HX hb; have HB := HB1; have HX := HX1; clear HB1 HX1; (try clear hk0 hk1 hk2 hk3 hk4 hk5); obtain ⟨hk0, hk1, hk2, hk3, hk4, hk5⟩ := box6 HX.out))
  go_ret
  exact ⟨rfl, HB.out⟩

set_option maxHeartbeats 2000000 in
set_option maxRecDepth 100000 in
theorem is7 (K : Nat) (a0 a1 a2 a3 a4 a5 : Int) (ix s1 : Nat) (A1 : Option Addr) (c1 : Nat) (b1 : List (List Int)) (A4 : Option Addr) (c4 : Nat) (b4 : List Int) (A5 : Option Addr) (c5 : Nat) (b5 : List (List Int)) (A6 : Option Addr) (c6 : Nat) (b6 : List Int) (A7 : Option Addr) (c7 : Nat) (b7 : List (List Int)) (w : World) (h1 : CL w A1 b1) (e1 : b1.length ≤ c1) (h4 : CB w A4 b4) (e4 : b4.length ≤ c4) (h5 : CL w A5 b5) (e5 : b5.length ≤ c5) (h6 : CB w A6 b6) (e6 : b6.length ≤ c6) (h7 : CL w A7 b7) (e7 : b7.length ≤ c7) (z1 : laws_zzFits2.f K b1 = some true) (t4 : decide (2147483647 < (b4.length : Int)) = false) (z5 : laws_zzFits2.f K b5 = some true) (t6 : decide (2147483647 < (b6.length : Int)) = false) (z7 : laws_zzFits2.f K b7 = some true) (hml : b1.length ≤ 2147483647) (tt : spec_Terms.f a0 a1 a2 a3 a4 a5 = some true) (p1 : laws_logSmall.f K b1 = some false) :
    Calls Tryd.prog 10 #[.agg #[.int .i64 a0, .int .i64 a1, .int .i64 a2, .int .u64 a3, .int .u64 a4, .int .u64 a5], .slice A1 b1.length c1, .int .u64 (ix : Int), .int .u64 (s1 : Int), .slice A4 b4.length c4, .slice A5 b5.length c5, .slice A6 b6.length c6, .slice A7 b7.length c7] w fun en w' => en = .returned (.bool true) ∧ Below w.heap.size w w' := by
  have h1_ := Aside0.mk h1
  have h4_ := Aside0.mk h4
  have h5_ := Aside0.mk h5
  have h6_ := Aside0.mk h6
  have h7_ := Aside0.mk h7
  clear h1 h4 h5 h6 h7
  have _u := And.intro e1 (And.intro e4 (And.intro e5 (And.intro e6 (And.intro e7 (Eq.refl K)))))
  clear _u
  have HB : Aside0 (Below w.heap.size w (w.alloc (.cells #[.int .i64 a0, .int .i64 a1, .int .i64 a2, .int .u64 a3, .int .u64 a4, .int .u64 a5] 24))) := ⟨below_alloc (Below.refl _ _) _⟩
  have HX : Aside0 ((w.alloc (.cells #[.int .i64 a0, .int .i64 a1, .int .i64 a2, .int .u64 a3, .int .u64 a4, .int .u64 a5] 24)).heap[w.heap.size]? = some (.cells #[.int .i64 a0, .int .i64 a1, .int .i64 a2, .int .u64 a3, .int .u64 a4, .int .u64 a5] 24 (0, 0))) := ⟨heap_alloc_new w (.cells #[.int .i64 a0, .int .i64 a1, .int .i64 a2, .int .u64 a3, .int .u64 a4, .int .u64 a5] 24)⟩
  have Z1 := Aside0.mk z1
  clear z1
  have Z5 := Aside0.mk z5
  clear z5
  have Z7 := Aside0.mk z7
  clear z7
  have TT := Aside0.mk tt
  clear tt
  have P1 := Aside0.mk p1
  clear p1
  have ML := Aside0.mk hml
  clear hml
  have hw : ∀ z : Int, z = (b1.length : Int) → IntKind.u64.wrap z = (b1.length : Int) := fun z hz => by
    rw [hz]
    show (b1.length : Int) % 18446744073709551616 = _
    have := ML.out
    omega
  go_enter Tryd.func10, Tryd.ntmps10
  go_wp2_with fail
  go_wp2_with (first
    | (go_at_call 13; (with_reducible refine (laws_zzFits2.calls K A1 c1 b1 _ _ (Kd.C_below h1_.out HB.out) e1 Z1.out).mono ?_); rintro en wz1 ⟨rfl, hd⟩; (first | have hb := hd.below | have hb := hd); clear hd; have HB1 := Aside0.mk (below_then HB.out HB.out.size hb); have HX1 := Aside0.mk (blk_below HX.out hb); clear HB HX hb; have HB := HB1; have HX := HX1; clear HB1 HX1; (try clear hk0 hk1 hk2 hk3 hk4 hk5); obtain ⟨hk0, hk1, hk2, hk3, hk4, hk5⟩ := box6 HX.out)
    | (go_at_call 13; (with_reducible refine (laws_zzFits2.calls K A5 c5 b5 _ _ (Kd.C_below h5_.out HB.out) e5 Z5.out).mono ?_); rintro en wz5 ⟨rfl, hd⟩; (first | have hb := hd.below | have hb := hd); clear hd; have HB1 := Aside0.mk (below_then HB.out HB.out.size hb); have HX1 := Aside0.mk (blk_below HX.out hb); clear HB HX hb; have HB := HB1; have HX := HX1; clear HB1 HX1; (try clear hk0 hk1 hk2 hk3 hk4 hk5); obtain ⟨hk0, hk1, hk2, hk3, hk4, hk5⟩ := box6 HX.out)
    | (go_at_call 13; (with_reducible refine (laws_zzFits2.calls K A7 c7 b7 _ _ (Kd.C_below h7_.out HB.out) e7 Z7.out).mono ?_); rintro en wz7 ⟨rfl, hd⟩; (first | have hb := hd.below | have hb := hd); clear hd; have HB1 := Aside0.mk (below_then HB.out HB.out.size hb); have HX1 := Aside0.mk (blk_below HX.out hb); clear HB HX hb; have HB := HB1; have HX := HX1; clear HB1 HX1; (try clear hk0 hk1 hk2 hk3 hk4 hk5); obtain ⟨hk0, hk1, hk2, hk3, hk4, hk5⟩ := box6 HX.out)
    | (go_at_call 14; (with_reducible refine (spec_Terms.calls a0 a1 a2 a3 a4 a5 _ _ TT.out).mono ?_); rintro en wt ⟨rfl, hd⟩; (first | have hb := hd.below | have hb := hd); clear hd; have HB1 := Aside0.mk (below_then HB.out HB.out.size hb); have HX1 := Aside0.mk (blk_below HX.out hb); clear HB HX hb; have HB := HB1; have HX := HX1; clear HB1 HX1; (try clear hk0 hk1 hk2 hk3 hk4 hk5); obtain ⟨hk0, hk1, hk2, hk3, hk4, hk5⟩ := box6 HX.out)
    | (go_at_call 15; (with_reducible refine (laws_logSmall.calls K A1 c1 b1 _ _ (Kd.C_below h1_.out HB.out) e1 P1.out).mono ?_); rintro en wp1 ⟨rfl, hd⟩; (first | have hb := hd.below | have hb := hd); clear hd; have HB1 := Aside0.mk (below_then HB.out HB.out.size hb); have HX1 := Aside0.mk (blk_below HX.out hb); clear HB HX hb; have HB := HB1; have HX := HX1; clear HB1 HX1; (try clear hk0 hk1 hk2 hk3 hk4 hk5); obtain ⟨hk0, hk1, hk2, hk3, hk4, hk5⟩ := box6 HX.out))
  go_ret
  exact ⟨rfl, HB.out⟩

set_option maxHeartbeats 2000000 in
set_option maxRecDepth 100000 in
theorem is8 (K : Nat) (a0 a1 a2 a3 a4 a5 : Int) (ix s1 : Nat) (A1 : Option Addr) (c1 : Nat) (b1 : List (List Int)) (A4 : Option Addr) (c4 : Nat) (b4 : List Int) (A5 : Option Addr) (c5 : Nat) (b5 : List (List Int)) (A6 : Option Addr) (c6 : Nat) (b6 : List Int) (A7 : Option Addr) (c7 : Nat) (b7 : List (List Int)) (w : World) (h1 : CL w A1 b1) (e1 : b1.length ≤ c1) (h4 : CB w A4 b4) (e4 : b4.length ≤ c4) (h5 : CL w A5 b5) (e5 : b5.length ≤ c5) (h6 : CB w A6 b6) (e6 : b6.length ≤ c6) (h7 : CL w A7 b7) (e7 : b7.length ≤ c7) (z1 : laws_zzFits2.f K b1 = some true) (t4 : decide (2147483647 < (b4.length : Int)) = false) (z5 : laws_zzFits2.f K b5 = some true) (t6 : decide (2147483647 < (b6.length : Int)) = false) (z7 : laws_zzFits2.f K b7 = some true) (hml : b1.length ≤ 2147483647) (tt : spec_Terms.f a0 a1 a2 a3 a4 a5 = some true) (p1 : laws_logSmall.f K b1 = some true) (p5 : laws_logSmall.f K b5 = some false) :
    Calls Tryd.prog 10 #[.agg #[.int .i64 a0, .int .i64 a1, .int .i64 a2, .int .u64 a3, .int .u64 a4, .int .u64 a5], .slice A1 b1.length c1, .int .u64 (ix : Int), .int .u64 (s1 : Int), .slice A4 b4.length c4, .slice A5 b5.length c5, .slice A6 b6.length c6, .slice A7 b7.length c7] w fun en w' => en = .returned (.bool true) ∧ Below w.heap.size w w' := by
  have h1_ := Aside0.mk h1
  have h4_ := Aside0.mk h4
  have h5_ := Aside0.mk h5
  have h6_ := Aside0.mk h6
  have h7_ := Aside0.mk h7
  clear h1 h4 h5 h6 h7
  have _u := And.intro e1 (And.intro e4 (And.intro e5 (And.intro e6 (And.intro e7 (Eq.refl K)))))
  clear _u
  have HB : Aside0 (Below w.heap.size w (w.alloc (.cells #[.int .i64 a0, .int .i64 a1, .int .i64 a2, .int .u64 a3, .int .u64 a4, .int .u64 a5] 24))) := ⟨below_alloc (Below.refl _ _) _⟩
  have HX : Aside0 ((w.alloc (.cells #[.int .i64 a0, .int .i64 a1, .int .i64 a2, .int .u64 a3, .int .u64 a4, .int .u64 a5] 24)).heap[w.heap.size]? = some (.cells #[.int .i64 a0, .int .i64 a1, .int .i64 a2, .int .u64 a3, .int .u64 a4, .int .u64 a5] 24 (0, 0))) := ⟨heap_alloc_new w (.cells #[.int .i64 a0, .int .i64 a1, .int .i64 a2, .int .u64 a3, .int .u64 a4, .int .u64 a5] 24)⟩
  have Z1 := Aside0.mk z1
  clear z1
  have Z5 := Aside0.mk z5
  clear z5
  have Z7 := Aside0.mk z7
  clear z7
  have TT := Aside0.mk tt
  clear tt
  have P1 := Aside0.mk p1
  clear p1
  have P5 := Aside0.mk p5
  clear p5
  have ML := Aside0.mk hml
  clear hml
  have hw : ∀ z : Int, z = (b1.length : Int) → IntKind.u64.wrap z = (b1.length : Int) := fun z hz => by
    rw [hz]
    show (b1.length : Int) % 18446744073709551616 = _
    have := ML.out
    omega
  go_enter Tryd.func10, Tryd.ntmps10
  go_wp2_with fail
  go_wp2_with (first
    | (go_at_call 13; (with_reducible refine (laws_zzFits2.calls K A1 c1 b1 _ _ (Kd.C_below h1_.out HB.out) e1 Z1.out).mono ?_); rintro en wz1 ⟨rfl, hd⟩; (first | have hb := hd.below | have hb := hd); clear hd; have HB1 := Aside0.mk (below_then HB.out HB.out.size hb); have HX1 := Aside0.mk (blk_below HX.out hb); clear HB HX hb; have HB := HB1; have HX := HX1; clear HB1 HX1; (try clear hk0 hk1 hk2 hk3 hk4 hk5); obtain ⟨hk0, hk1, hk2, hk3, hk4, hk5⟩ := box6 HX.out)
    | (go_at_call 13; (with_reducible refine (laws_zzFits2.calls K A5 c5 b5 _ _ (Kd.C_below h5_.out HB.out) e5 Z5.out).mono ?_); rintro en wz5 ⟨rfl, hd⟩; (first | have hb := hd.below | have hb := hd); clear hd; have HB1 := Aside0.mk (below_then HB.out HB.out.size hb); have HX1 := Aside0.mk (blk_below HX.out hb); clear HB HX hb; have HB := HB1; have HX := HX1; clear HB1 HX1; (try clear hk0 hk1 hk2 hk3 hk4 hk5); obtain ⟨hk0, hk1, hk2, hk3, hk4, hk5⟩ := box6 HX.out)
    | (go_at_call 13; (with_reducible refine (laws_zzFits2.calls K A7 c7 b7 _ _ (Kd.C_below h7_.out HB.out) e7 Z7.out).mono ?_); rintro en wz7 ⟨rfl, hd⟩; (first | have hb := hd.below | have hb := hd); clear hd; have HB1 := Aside0.mk (below_then HB.out HB.out.size hb); have HX1 := Aside0.mk (blk_below HX.out hb); clear HB HX hb; have HB := HB1; have HX := HX1; clear HB1 HX1; (try clear hk0 hk1 hk2 hk3 hk4 hk5); obtain ⟨hk0, hk1, hk2, hk3, hk4, hk5⟩ := box6 HX.out)
    | (go_at_call 14; (with_reducible refine (spec_Terms.calls a0 a1 a2 a3 a4 a5 _ _ TT.out).mono ?_); rintro en wt ⟨rfl, hd⟩; (first | have hb := hd.below | have hb := hd); clear hd; have HB1 := Aside0.mk (below_then HB.out HB.out.size hb); have HX1 := Aside0.mk (blk_below HX.out hb); clear HB HX hb; have HB := HB1; have HX := HX1; clear HB1 HX1; (try clear hk0 hk1 hk2 hk3 hk4 hk5); obtain ⟨hk0, hk1, hk2, hk3, hk4, hk5⟩ := box6 HX.out)
    | (go_at_call 15; (with_reducible refine (laws_logSmall.calls K A1 c1 b1 _ _ (Kd.C_below h1_.out HB.out) e1 P1.out).mono ?_); rintro en wp1 ⟨rfl, hd⟩; (first | have hb := hd.below | have hb := hd); clear hd; have HB1 := Aside0.mk (below_then HB.out HB.out.size hb); have HX1 := Aside0.mk (blk_below HX.out hb); clear HB HX hb; have HB := HB1; have HX := HX1; clear HB1 HX1; (try clear hk0 hk1 hk2 hk3 hk4 hk5); obtain ⟨hk0, hk1, hk2, hk3, hk4, hk5⟩ := box6 HX.out)
    | (go_at_call 15; (with_reducible refine (laws_logSmall.calls K A5 c5 b5 _ _ (Kd.C_below h5_.out HB.out) e5 P5.out).mono ?_); rintro en wp5 ⟨rfl, hd⟩; (first | have hb := hd.below | have hb := hd); clear hd; have HB1 := Aside0.mk (below_then HB.out HB.out.size hb); have HX1 := Aside0.mk (blk_below HX.out hb); clear HB HX hb; have HB := HB1; have HX := HX1; clear HB1 HX1; (try clear hk0 hk1 hk2 hk3 hk4 hk5); obtain ⟨hk0, hk1, hk2, hk3, hk4, hk5⟩ := box6 HX.out))
  go_ret
  exact ⟨rfl, HB.out⟩

set_option maxHeartbeats 2000000 in
set_option maxRecDepth 100000 in
theorem is9 (K : Nat) (a0 a1 a2 a3 a4 a5 : Int) (ix s1 : Nat) (A1 : Option Addr) (c1 : Nat) (b1 : List (List Int)) (A4 : Option Addr) (c4 : Nat) (b4 : List Int) (A5 : Option Addr) (c5 : Nat) (b5 : List (List Int)) (A6 : Option Addr) (c6 : Nat) (b6 : List Int) (A7 : Option Addr) (c7 : Nat) (b7 : List (List Int)) (w : World) (h1 : CL w A1 b1) (e1 : b1.length ≤ c1) (h4 : CB w A4 b4) (e4 : b4.length ≤ c4) (h5 : CL w A5 b5) (e5 : b5.length ≤ c5) (h6 : CB w A6 b6) (e6 : b6.length ≤ c6) (h7 : CL w A7 b7) (e7 : b7.length ≤ c7) (z1 : laws_zzFits2.f K b1 = some true) (t4 : decide (2147483647 < (b4.length : Int)) = false) (z5 : laws_zzFits2.f K b5 = some true) (t6 : decide (2147483647 < (b6.length : Int)) = false) (z7 : laws_zzFits2.f K b7 = some true) (hml : b1.length ≤ 2147483647) (tt : spec_Terms.f a0 a1 a2 a3 a4 a5 = some true) (p1 : laws_logSmall.f K b1 = some true) (p5 : laws_logSmall.f K b5 = some true) (p7 : laws_logSmall.f K b7 = some false) :
    Calls Tryd.prog 10 #[.agg #[.int .i64 a0, .int .i64 a1, .int .i64 a2, .int .u64 a3, .int .u64 a4, .int .u64 a5], .slice A1 b1.length c1, .int .u64 (ix : Int), .int .u64 (s1 : Int), .slice A4 b4.length c4, .slice A5 b5.length c5, .slice A6 b6.length c6, .slice A7 b7.length c7] w fun en w' => en = .returned (.bool true) ∧ Below w.heap.size w w' := by
  have h1_ := Aside0.mk h1
  have h4_ := Aside0.mk h4
  have h5_ := Aside0.mk h5
  have h6_ := Aside0.mk h6
  have h7_ := Aside0.mk h7
  clear h1 h4 h5 h6 h7
  have _u := And.intro e1 (And.intro e4 (And.intro e5 (And.intro e6 (And.intro e7 (Eq.refl K)))))
  clear _u
  have HB : Aside0 (Below w.heap.size w (w.alloc (.cells #[.int .i64 a0, .int .i64 a1, .int .i64 a2, .int .u64 a3, .int .u64 a4, .int .u64 a5] 24))) := ⟨below_alloc (Below.refl _ _) _⟩
  have HX : Aside0 ((w.alloc (.cells #[.int .i64 a0, .int .i64 a1, .int .i64 a2, .int .u64 a3, .int .u64 a4, .int .u64 a5] 24)).heap[w.heap.size]? = some (.cells #[.int .i64 a0, .int .i64 a1, .int .i64 a2, .int .u64 a3, .int .u64 a4, .int .u64 a5] 24 (0, 0))) := ⟨heap_alloc_new w (.cells #[.int .i64 a0, .int .i64 a1, .int .i64 a2, .int .u64 a3, .int .u64 a4, .int .u64 a5] 24)⟩
  have Z1 := Aside0.mk z1
  clear z1
  have Z5 := Aside0.mk z5
  clear z5
  have Z7 := Aside0.mk z7
  clear z7
  have TT := Aside0.mk tt
  clear tt
  have P1 := Aside0.mk p1
  clear p1
  have P5 := Aside0.mk p5
  clear p5
  have P7 := Aside0.mk p7
  clear p7
  have ML := Aside0.mk hml
  clear hml
  have hw : ∀ z : Int, z = (b1.length : Int) → IntKind.u64.wrap z = (b1.length : Int) := fun z hz => by
    rw [hz]
    show (b1.length : Int) % 18446744073709551616 = _
    have := ML.out
    omega
  go_enter Tryd.func10, Tryd.ntmps10
  go_wp2_with fail
  go_wp2_with (first
    | (go_at_call 13; (with_reducible refine (laws_zzFits2.calls K A1 c1 b1 _ _ (Kd.C_below h1_.out HB.out) e1 Z1.out).mono ?_); rintro en wz1 ⟨rfl, hd⟩; (first | have hb := hd.below | have hb := hd); clear hd; have HB1 := Aside0.mk (below_then HB.out HB.out.size hb); have HX1 := Aside0.mk (blk_below HX.out hb); clear HB HX hb; have HB := HB1; have HX := HX1; clear HB1 HX1; (try clear hk0 hk1 hk2 hk3 hk4 hk5); obtain ⟨hk0, hk1, hk2, hk3, hk4, hk5⟩ := box6 HX.out)
    | (go_at_call 13; (with_reducible refine (laws_zzFits2.calls K A5 c5 b5 _ _ (Kd.C_below h5_.out HB.out) e5 Z5.out).mono ?_); rintro en wz5 ⟨rfl, hd⟩; (first | have hb := hd.below | have hb := hd); clear hd; have HB1 := Aside0.mk (below_then HB.out HB.out.size hb); have HX1 := Aside0.mk (blk_below HX.out hb); clear HB HX hb; have HB := HB1; have HX := HX1; clear HB1 HX1; (try clear hk0 hk1 hk2 hk3 hk4 hk5); obtain ⟨hk0, hk1, hk2, hk3, hk4, hk5⟩ := box6 HX.out)
    | (go_at_call 13; (with_reducible refine (laws_zzFits2.calls K A7 c7 b7 _ _ (Kd.C_below h7_.out HB.out) e7 Z7.out).mono ?_); rintro en wz7 ⟨rfl, hd⟩; (first | have hb := hd.below | have hb := hd); clear hd; have HB1 := Aside0.mk (below_then HB.out HB.out.size hb); have HX1 := Aside0.mk (blk_below HX.out hb); clear HB HX hb; have HB := HB1; have HX := HX1; clear HB1 HX1; (try clear hk0 hk1 hk2 hk3 hk4 hk5); obtain ⟨hk0, hk1, hk2, hk3, hk4, hk5⟩ := box6 HX.out)
    | (go_at_call 14; (with_reducible refine (spec_Terms.calls a0 a1 a2 a3 a4 a5 _ _ TT.out).mono ?_); rintro en wt ⟨rfl, hd⟩; (first | have hb := hd.below | have hb := hd); clear hd; have HB1 := Aside0.mk (below_then HB.out HB.out.size hb); have HX1 := Aside0.mk (blk_below HX.out hb); clear HB HX hb; have HB := HB1; have HX := HX1; clear HB1 HX1; (try clear hk0 hk1 hk2 hk3 hk4 hk5); obtain ⟨hk0, hk1, hk2, hk3, hk4, hk5⟩ := box6 HX.out)
    | (go_at_call 15; (with_reducible refine (laws_logSmall.calls K A1 c1 b1 _ _ (Kd.C_below h1_.out HB.out) e1 P1.out).mono ?_); rintro en wp1 ⟨rfl, hd⟩; (first | have hb := hd.below | have hb := hd); clear hd; have HB1 := Aside0.mk (below_then HB.out HB.out.size hb); have HX1 := Aside0.mk (blk_below HX.out hb); clear HB HX hb; have HB := HB1; have HX := HX1; clear HB1 HX1; (try clear hk0 hk1 hk2 hk3 hk4 hk5); obtain ⟨hk0, hk1, hk2, hk3, hk4, hk5⟩ := box6 HX.out)
    | (go_at_call 15; (with_reducible refine (laws_logSmall.calls K A5 c5 b5 _ _ (Kd.C_below h5_.out HB.out) e5 P5.out).mono ?_); rintro en wp5 ⟨rfl, hd⟩; (first | have hb := hd.below | have hb := hd); clear hd; have HB1 := Aside0.mk (below_then HB.out HB.out.size hb); have HX1 := Aside0.mk (blk_below HX.out hb); clear HB HX hb; have HB := HB1; have HX := HX1; clear HB1 HX1; (try clear hk0 hk1 hk2 hk3 hk4 hk5); obtain ⟨hk0, hk1, hk2, hk3, hk4, hk5⟩ := box6 HX.out)
    | (go_at_call 15; (with_reducible refine (laws_logSmall.calls K A7 c7 b7 _ _ (Kd.C_below h7_.out HB.out) e7 P7.out).mono ?_); rintro en wp7 ⟨rfl, hd⟩; (first | have hb := hd.below | have hb := hd); clear hd; have HB1 := Aside0.mk (below_then HB.out HB.out.size hb); have HX1 := Aside0.mk (blk_below HX.out hb); clear HB HX hb; have HB := HB1; have HX := HX1; clear HB1 HX1; (try clear hk0 hk1 hk2 hk3 hk4 hk5); obtain ⟨hk0, hk1, hk2, hk3, hk4, hk5⟩ := box6 HX.out))
  go_ret
  exact ⟨rfl, HB.out⟩

set_option maxHeartbeats 2000000 in
set_option maxRecDepth 100000 in
theorem is10 (K : Nat) (a0 a1 a2 a3 a4 a5 : Int) (ix s1 : Nat) (A1 : Option Addr) (c1 : Nat) (b1 : List (List Int)) (A4 : Option Addr) (c4 : Nat) (b4 : List Int) (A5 : Option Addr) (c5 : Nat) (b5 : List (List Int)) (A6 : Option Addr) (c6 : Nat) (b6 : List Int) (A7 : Option Addr) (c7 : Nat) (b7 : List (List Int)) (w : World) (h1 : CL w A1 b1) (e1 : b1.length ≤ c1) (h4 : CB w A4 b4) (e4 : b4.length ≤ c4) (h5 : CL w A5 b5) (e5 : b5.length ≤ c5) (h6 : CB w A6 b6) (e6 : b6.length ≤ c6) (h7 : CL w A7 b7) (e7 : b7.length ≤ c7) (z1 : laws_zzFits2.f K b1 = some true) (t4 : decide (2147483647 < (b4.length : Int)) = false) (z5 : laws_zzFits2.f K b5 = some true) (t6 : decide (2147483647 < (b6.length : Int)) = false) (z7 : laws_zzFits2.f K b7 = some true) (hml : b1.length ≤ 2147483647) (tt : spec_Terms.f a0 a1 a2 a3 a4 a5 = some true) (p1 : laws_logSmall.f K b1 = some true) (p5 : laws_logSmall.f K b5 = some true) (p7 : laws_logSmall.f K b7 = some true) (u6 : decide (100000 < (b6.length : Int)) = true) :
    Calls Tryd.prog 10 #[.agg #[.int .i64 a0, .int .i64 a1, .int .i64 a2, .int .u64 a3, .int .u64 a4, .int .u64 a5], .slice A1 b1.length c1, .int .u64 (ix : Int), .int .u64 (s1 : Int), .slice A4 b4.length c4, .slice A5 b5.length c5, .slice A6 b6.length c6, .slice A7 b7.length c7] w fun en w' => en = .returned (.bool true) ∧ Below w.heap.size w w' := by
  have h1_ := Aside0.mk h1
  have h4_ := Aside0.mk h4
  have h5_ := Aside0.mk h5
  have h6_ := Aside0.mk h6
  have h7_ := Aside0.mk h7
  clear h1 h4 h5 h6 h7
  have _u := And.intro e1 (And.intro e4 (And.intro e5 (And.intro e6 (And.intro e7 (Eq.refl K)))))
  clear _u
  have HB : Aside0 (Below w.heap.size w (w.alloc (.cells #[.int .i64 a0, .int .i64 a1, .int .i64 a2, .int .u64 a3, .int .u64 a4, .int .u64 a5] 24))) := ⟨below_alloc (Below.refl _ _) _⟩
  have HX : Aside0 ((w.alloc (.cells #[.int .i64 a0, .int .i64 a1, .int .i64 a2, .int .u64 a3, .int .u64 a4, .int .u64 a5] 24)).heap[w.heap.size]? = some (.cells #[.int .i64 a0, .int .i64 a1, .int .i64 a2, .int .u64 a3, .int .u64 a4, .int .u64 a5] 24 (0, 0))) := ⟨heap_alloc_new w (.cells #[.int .i64 a0, .int .i64 a1, .int .i64 a2, .int .u64 a3, .int .u64 a4, .int .u64 a5] 24)⟩
  have Z1 := Aside0.mk z1
  clear z1
  have Z5 := Aside0.mk z5
  clear z5
  have Z7 := Aside0.mk z7
  clear z7
  have TT := Aside0.mk tt
  clear tt
  have P1 := Aside0.mk p1
  clear p1
  have P5 := Aside0.mk p5
  clear p5
  have P7 := Aside0.mk p7
  clear p7
  have ML := Aside0.mk hml
  clear hml
  have hw : ∀ z : Int, z = (b1.length : Int) → IntKind.u64.wrap z = (b1.length : Int) := fun z hz => by
    rw [hz]
    show (b1.length : Int) % 18446744073709551616 = _
    have := ML.out
    omega
  go_enter Tryd.func10, Tryd.ntmps10
  go_wp2_with fail
  go_wp2_with (first
    | (go_at_call 13; (with_reducible refine (laws_zzFits2.calls K A1 c1 b1 _ _ (Kd.C_below h1_.out HB.out) e1 Z1.out).mono ?_); rintro en wz1 ⟨rfl, hd⟩; (first | have hb := hd.below | have hb := hd); clear hd; have HB1 := Aside0.mk (below_then HB.out HB.out.size hb); have HX1 := Aside0.mk (blk_below HX.out hb); clear HB HX hb; have HB := HB1; have HX := HX1; clear HB1 HX1; (try clear hk0 hk1 hk2 hk3 hk4 hk5); obtain ⟨hk0, hk1, hk2, hk3, hk4, hk5⟩ := box6 HX.out)
    | (go_at_call 13; (with_reducible refine (laws_zzFits2.calls K A5 c5 b5 _ _ (Kd.C_below h5_.out HB.out) e5 Z5.out).mono ?_); rintro en wz5 ⟨rfl, hd⟩; (first | have hb := hd.below | have hb := hd); clear hd; have HB1 := Aside0.mk (below_then HB.out HB.out.size hb); have HX1 := Aside0.mk (blk_below HX.out hb); clear HB HX hb; have HB := HB1; have HX := HX1; clear HB1 HX1; (try clear hk0 hk1 hk2 hk3 hk4 hk5); obtain ⟨hk0, hk1, hk2, hk3, hk4, hk5⟩ := box6 HX.out)
    | (go_at_call 13; (with_reducible refine (laws_zzFits2.calls K A7 c7 b7 _ _ (Kd.C_below h7_.out HB.out) e7 Z7.out).mono ?_); rintro en wz7 ⟨rfl, hd⟩; (first | have hb := hd.below | have hb := hd); clear hd; have HB1 := Aside0.mk (below_then HB.out HB.out.size hb); have HX1 := Aside0.mk (blk_below HX.out hb); clear HB HX hb; have HB := HB1; have HX := HX1; clear HB1 HX1; (try clear hk0 hk1 hk2 hk3 hk4 hk5); obtain ⟨hk0, hk1, hk2, hk3, hk4, hk5⟩ := box6 HX.out)
    | (go_at_call 14; (with_reducible refine (spec_Terms.calls a0 a1 a2 a3 a4 a5 _ _ TT.out).mono ?_); rintro en wt ⟨rfl, hd⟩; (first | have hb := hd.below | have hb := hd); clear hd; have HB1 := Aside0.mk (below_then HB.out HB.out.size hb); have HX1 := Aside0.mk (blk_below HX.out hb); clear HB HX hb; have HB := HB1; have HX := HX1; clear HB1 HX1; (try clear hk0 hk1 hk2 hk3 hk4 hk5); obtain ⟨hk0, hk1, hk2, hk3, hk4, hk5⟩ := box6 HX.out)
    | (go_at_call 15; (with_reducible refine (laws_logSmall.calls K A1 c1 b1 _ _ (Kd.C_below h1_.out HB.out) e1 P1.out).mono ?_); rintro en wp1 ⟨rfl, hd⟩; (first | have hb := hd.below | have hb := hd); clear hd; have HB1 := Aside0.mk (below_then HB.out HB.out.size hb); have HX1 := Aside0.mk (blk_below HX.out hb); clear HB HX hb; have HB := HB1; have HX := HX1; clear HB1 HX1; (try clear hk0 hk1 hk2 hk3 hk4 hk5); obtain ⟨hk0, hk1, hk2, hk3, hk4, hk5⟩ := box6 HX.out)
    | (go_at_call 15; (with_reducible refine (laws_logSmall.calls K A5 c5 b5 _ _ (Kd.C_below h5_.out HB.out) e5 P5.out).mono ?_); rintro en wp5 ⟨rfl, hd⟩; (first | have hb := hd.below | have hb := hd); clear hd; have HB1 := Aside0.mk (below_then HB.out HB.out.size hb); have HX1 := Aside0.mk (blk_below HX.out hb); clear HB HX hb; have HB := HB1; have HX := HX1; clear HB1 HX1; (try clear hk0 hk1 hk2 hk3 hk4 hk5); obtain ⟨hk0, hk1, hk2, hk3, hk4, hk5⟩ := box6 HX.out)
    | (go_at_call 15; (with_reducible refine (laws_logSmall.calls K A7 c7 b7 _ _ (Kd.C_below h7_.out HB.out) e7 P7.out).mono ?_); rintro en wp7 ⟨rfl, hd⟩; (first | have hb := hd.below | have hb := hd); clear hd; have HB1 := Aside0.mk (below_then HB.out HB.out.size hb); have HX1 := Aside0.mk (blk_below HX.out hb); clear HB HX hb; have HB := HB1; have HX := HX1; clear HB1 HX1; (try clear hk0 hk1 hk2 hk3 hk4 hk5); obtain ⟨hk0, hk1, hk2, hk3, hk4, hk5⟩ := box6 HX.out))
  go_ret
  exact ⟨rfl, HB.out⟩

set_option maxHeartbeats 2000000 in
set_option maxRecDepth 100000 in
theorem is11 (K : Nat) (a0 a1 a2 a3 a4 a5 : Int) (ix s1 : Nat) (A1 : Option Addr) (c1 : Nat) (b1 : List (List Int)) (A4 : Option Addr) (c4 : Nat) (b4 : List Int) (A5 : Option Addr) (c5 : Nat) (b5 : List (List Int)) (A6 : Option Addr) (c6 : Nat) (b6 : List Int) (A7 : Option Addr) (c7 : Nat) (b7 : List (List Int)) (w : World) (h1 : CL w A1 b1) (e1 : b1.length ≤ c1) (h4 : CB w A4 b4) (e4 : b4.length ≤ c4) (h5 : CL w A5 b5) (e5 : b5.length ≤ c5) (h6 : CB w A6 b6) (e6 : b6.length ≤ c6) (h7 : CL w A7 b7) (e7 : b7.length ≤ c7) (z1 : laws_zzFits2.f K b1 = some true) (t4 : decide (2147483647 < (b4.length : Int)) = false) (z5 : laws_zzFits2.f K b5 = some true) (t6 : decide (2147483647 < (b6.length : Int)) = false) (z7 : laws_zzFits2.f K b7 = some true) (hml : b1.length ≤ 2147483647) (tt : spec_Terms.f a0 a1 a2 a3 a4 a5 = some true) (p1 : laws_logSmall.f K b1 = some true) (p5 : laws_logSmall.f K b5 = some true) (p7 : laws_logSmall.f K b7 = some true) (u6 : decide (100000 < (b6.length : Int)) = false) (u4 : decide (5000 < (b4.length : Int)) = true) :
    Calls Tryd.prog 10 #[.agg #[.int .i64 a0, .int .i64 a1, .int .i64 a2, .int .u64 a3, .int .u64 a4, .int .u64 a5], .slice A1 b1.length c1, .int .u64 (ix : Int), .int .u64 (s1 : Int), .slice A4 b4.length c4, .slice A5 b5.length c5, .slice A6 b6.length c6, .slice A7 b7.length c7] w fun en w' => en = .returned (.bool true) ∧ Below w.heap.size w w' := by
  have h1_ := Aside0.mk h1
  have h4_ := Aside0.mk h4
  have h5_ := Aside0.mk h5
  have h6_ := Aside0.mk h6
  have h7_ := Aside0.mk h7
  clear h1 h4 h5 h6 h7
  have _u := And.intro e1 (And.intro e4 (And.intro e5 (And.intro e6 (And.intro e7 (Eq.refl K)))))
  clear _u
  have HB : Aside0 (Below w.heap.size w (w.alloc (.cells #[.int .i64 a0, .int .i64 a1, .int .i64 a2, .int .u64 a3, .int .u64 a4, .int .u64 a5] 24))) := ⟨below_alloc (Below.refl _ _) _⟩
  have HX : Aside0 ((w.alloc (.cells #[.int .i64 a0, .int .i64 a1, .int .i64 a2, .int .u64 a3, .int .u64 a4, .int .u64 a5] 24)).heap[w.heap.size]? = some (.cells #[.int .i64 a0, .int .i64 a1, .int .i64 a2, .int .u64 a3, .int .u64 a4, .int .u64 a5] 24 (0, 0))) := ⟨heap_alloc_new w (.cells #[.int .i64 a0, .int .i64 a1, .int .i64 a2, .int .u64 a3, .int .u64 a4, .int .u64 a5] 24)⟩
  have Z1 := Aside0.mk z1
  clear z1
  have Z5 := Aside0.mk z5
  clear z5
  have Z7 := Aside0.mk z7
  clear z7
  have TT := Aside0.mk tt
  clear tt
  have P1 := Aside0.mk p1
  clear p1
  have P5 := Aside0.mk p5
  clear p5
  have P7 := Aside0.mk p7
  clear p7
  have ML := Aside0.mk hml
  clear hml
  have hw : ∀ z : Int, z = (b1.length : Int) → IntKind.u64.wrap z = (b1.length : Int) := fun z hz => by
    rw [hz]
    show (b1.length : Int) % 18446744073709551616 = _
    have := ML.out
    omega
  go_enter Tryd.func10, Tryd.ntmps10
  go_wp2_with fail
  go_wp2_with (first
    | (go_at_call 13; (with_reducible refine (laws_zzFits2.calls K A1 c1 b1 _ _ (Kd.C_below h1_.out HB.out) e1 Z1.out).mono ?_); rintro en wz1 ⟨rfl, hd⟩; (first | have hb := hd.below | have hb := hd); clear hd; have HB1 := Aside0.mk (below_then HB.out HB.out.size hb); have HX1 := Aside0.mk (blk_below HX.out hb); clear HB HX hb; have HB := HB1; have HX := HX1; clear HB1 HX1; (try clear hk0 hk1 hk2 hk3 hk4 hk5); obtain ⟨hk0, hk1, hk2, hk3, hk4, hk5⟩ := box6 HX.out)
    | (go_at_call 13; (with_reducible refine (laws_zzFits2.calls K A5 c5 b5 _ _ (Kd.C_below h5_.out HB.out) e5 Z5.out).mono ?_); rintro en wz5 ⟨rfl, hd⟩; (first | have hb := hd.below | have hb := hd); clear hd; have HB1 := Aside0.mk (below_then HB.out HB.out.size hb); have HX1 := Aside0.mk (blk_below HX.out hb); clear HB HX hb; have HB := HB1; have HX := HX1; clear HB1 HX1; (try clear hk0 hk1 hk2 hk3 hk4 hk5); obtain ⟨hk0, hk1, hk2, hk3, hk4, hk5⟩ := box6 HX.out)
    | (go_at_call 13; (with_reducible refine (laws_zzFits2.calls K A7 c7 b7 _ _ (Kd.C_below h7_.out HB.out) e7 Z7.out).mono ?_); rintro en wz7 ⟨rfl, hd⟩; (first | have hb := hd.below | have hb := hd); clear hd; have HB1 := Aside0.mk (below_then HB.out HB.out.size hb); have HX1 := Aside0.mk (blk_below HX.out hb); clear HB HX hb; have HB := HB1; have HX := HX1; clear HB1 HX1; (try clear hk0 hk1 hk2 hk3 hk4 hk5); obtain ⟨hk0, hk1, hk2, hk3, hk4, hk5⟩ := box6 HX.out)
    | (go_at_call 14; (with_reducible refine (spec_Terms.calls a0 a1 a2 a3 a4 a5 _ _ TT.out).mono ?_); rintro en wt ⟨rfl, hd⟩; (first | have hb := hd.below | have hb := hd); clear hd; have HB1 := Aside0.mk (below_then HB.out HB.out.size hb); have HX1 := Aside0.mk (blk_below HX.out hb); clear HB HX hb; have HB := HB1; have HX := HX1; clear HB1 HX1; (try clear hk0 hk1 hk2 hk3 hk4 hk5); obtain ⟨hk0, hk1, hk2, hk3, hk4, hk5⟩ := box6 HX.out)
    | (go_at_call 15; (with_reducible refine (laws_logSmall.calls K A1 c1 b1 _ _ (Kd.C_below h1_.out HB.out) e1 P1.out).mono ?_); rintro en wp1 ⟨rfl, hd⟩; (first | have hb := hd.below | have hb := hd); clear hd; have HB1 := Aside0.mk (below_then HB.out HB.out.size hb); have HX1 := Aside0.mk (blk_below HX.out hb); clear HB HX hb; have HB := HB1; have HX := HX1; clear HB1 HX1; (try clear hk0 hk1 hk2 hk3 hk4 hk5); obtain ⟨hk0, hk1, hk2, hk3, hk4, hk5⟩ := box6 HX.out)
    | (go_at_call 15; (with_reducible refine (laws_logSmall.calls K A5 c5 b5 _ _ (Kd.C_below h5_.out HB.out) e5 P5.out).mono ?_); rintro en wp5 ⟨rfl, hd⟩; (first | have hb := hd.below | have hb := hd); clear hd; have HB1 := Aside0.mk (below_then HB.out HB.out.size hb); have HX1 := Aside0.mk (blk_below HX.out hb); clear HB HX hb; have HB := HB1; have HX := HX1; clear HB1 HX1; (try clear hk0 hk1 hk2 hk3 hk4 hk5); obtain ⟨hk0, hk1, hk2, hk3, hk4, hk5⟩ := box6 HX.out)
    | (go_at_call 15; (with_reducible refine (laws_logSmall.calls K A7 c7 b7 _ _ (Kd.C_below h7_.out HB.out) e7 P7.out).mono ?_); rintro en wp7 ⟨rfl, hd⟩; (first | have hb := hd.below | have hb := hd); clear hd; have HB1 := Aside0.mk (below_then HB.out HB.out.size hb); have HX1 := Aside0.mk (blk_below HX.out hb); clear HB HX hb; have HB := HB1; have HX := HX1; clear HB1 HX1; (try clear hk0 hk1 hk2 hk3 hk4 hk5); obtain ⟨hk0, hk1, hk2, hk3, hk4, hk5⟩ := box6 HX.out))
  go_ret
  exact ⟨rfl, HB.out⟩

set_option maxHeartbeats 2000000 in
set_option maxRecDepth 100000 in
theorem is12 (K : Nat) (a0 a1 a2 a3 a4 a5 : Int) (ix s1 : Nat) (A1 : Option Addr) (c1 : Nat) (b1 : List (List Int)) (A4 : Option Addr) (c4 : Nat) (b4 : List Int) (A5 : Option Addr) (c5 : Nat) (b5 : List (List Int)) (A6 : Option Addr) (c6 : Nat) (b6 : List Int) (A7 : Option Addr) (c7 : Nat) (b7 : List (List Int)) (w : World) (h1 : CL w A1 b1) (e1 : b1.length ≤ c1) (h4 : CB w A4 b4) (e4 : b4.length ≤ c4) (h5 : CL w A5 b5) (e5 : b5.length ≤ c5) (h6 : CB w A6 b6) (e6 : b6.length ≤ c6) (h7 : CL w A7 b7) (e7 : b7.length ≤ c7) (z1 : laws_zzFits2.f K b1 = some true) (t4 : decide (2147483647 < (b4.length : Int)) = false) (z5 : laws_zzFits2.f K b5 = some true) (t6 : decide (2147483647 < (b6.length : Int)) = false) (z7 : laws_zzFits2.f K b7 = some true) (hml : b1.length ≤ 2147483647) (tt : spec_Terms.f a0 a1 a2 a3 a4 a5 = some true) (p1 : laws_logSmall.f K b1 = some true) (p5 : laws_logSmall.f K b5 = some true) (p7 : laws_logSmall.f K b7 = some true) (u6 : decide (100000 < (b6.length : Int)) = false) (u4 : decide (5000 < (b4.length : Int)) = false) (v1 : decide (b1.length < s1) = true) (v1i : decide ((b1.length : Int) < (s1 : Int)) = true) :
    Calls Tryd.prog 10 #[.agg #[.int .i64 a0, .int .i64 a1, .int .i64 a2, .int .u64 a3, .int .u64 a4, .int .u64 a5], .slice A1 b1.length c1, .int .u64 (ix : Int), .int .u64 (s1 : Int), .slice A4 b4.length c4, .slice A5 b5.length c5, .slice A6 b6.length c6, .slice A7 b7.length c7] w fun en w' => en = .returned (.bool true) ∧ Below w.heap.size w w' := by
  have h1_ := Aside0.mk h1
  have h4_ := Aside0.mk h4
  have h5_ := Aside0.mk h5
  have h6_ := Aside0.mk h6
  have h7_ := Aside0.mk h7
  clear h1 h4 h5 h6 h7
  have _u := And.intro e1 (And.intro e4 (And.intro e5 (And.intro e6 (And.intro e7 (Eq.refl K)))))
  clear _u
  have HB : Aside0 (Below w.heap.size w (w.alloc (.cells #[.int .i64 a0, .int .i64 a1, .int .i64 a2, .int .u64 a3, .int .u64 a4, .int .u64 a5] 24))) := ⟨below_alloc (Below.refl _ _) _⟩
  have HX : Aside0 ((w.alloc (.cells #[.int .i64 a0, .int .i64 a1, .int .i64 a2, .int .u64 a3, .int .u64 a4, .int .u64 a5] 24)).heap[w.heap.size]? = some (.cells #[.int .i64 a0, .int .i64 a1, .int .i64 a2, .int .u64 a3, .int .u64 a4, .int .u64 a5] 24 (0, 0))) := ⟨heap_alloc_new w (.cells #[.int .i64 a0, .int .i64 a1, .int .i64 a2, .int .u64 a3, .int .u64 a4, .int .u64 a5] 24)⟩
  have _v := And.intro v1i (Eq.refl K)
  clear _v
  have Z1 := Aside0.mk z1
  clear z1
  have Z5 := Aside0.mk z5
  clear z5
  have Z7 := Aside0.mk z7
  clear z7
  have TT := Aside0.mk tt
  clear tt
  have P1 := Aside0.mk p1
  clear p1
  have P5 := Aside0.mk p5
  clear p5
  have P7 := Aside0.mk p7
  clear p7
  have ML := Aside0.mk hml
  clear hml
  have hw : ∀ z : Int, z = (b1.length : Int) → IntKind.u64.wrap z = (b1.length : Int) := fun z hz => by
    rw [hz]
    show (b1.length : Int) % 18446744073709551616 = _
    have := ML.out
    omega
  go_enter Tryd.func10, Tryd.ntmps10
  go_wp2_with fail
  go_wp2_with (first
    | (go_at_call 13; (with_reducible refine (laws_zzFits2.calls K A1 c1 b1 _ _ (Kd.C_below h1_.out HB.out) e1 Z1.out).mono ?_); rintro en wz1 ⟨rfl, hd⟩; (first | have hb := hd.below | have hb := hd); clear hd; have HB1 := Aside0.mk (below_then HB.out HB.out.size hb); have HX1 := Aside0.mk (blk_below HX.out hb); clear HB HX hb; have HB := HB1; have HX := HX1; clear HB1 HX1; (try clear hk0 hk1 hk2 hk3 hk4 hk5); obtain ⟨hk0, hk1, hk2, hk3, hk4, hk5⟩ := box6 HX.out)
    | (go_at_call 13; (with_reducible refine (laws_zzFits2.calls K A5 c5 b5 _ _ (Kd.C_below h5_.out HB.out) e5 Z5.out).mono ?_); rintro en wz5 ⟨rfl, hd⟩; (first | have hb := hd.below | have hb := hd); clear hd; have HB1 := Aside0.mk (below_then HB.out HB.out.size hb); have HX1 := Aside0.mk (blk_below HX.out hb); clear HB HX hb; have HB := HB1; have HX := HX1; clear HB1 HX1; (try clear hk0 hk1 hk2 hk3 hk4 hk5); obtain ⟨hk0, hk1, hk2, hk3, hk4, hk5⟩ := box6 HX.out)
    | (go_at_call 13; (with_reducible refine (laws_zzFits2.calls K A7 c7 b7 _ _ (Kd.C_below h7_.out HB.out) e7 Z7.out).mono ?_); rintro en wz7 ⟨rfl, hd⟩; (first | have hb := hd.below | have hb := hd); clear hd; have HB1 := Aside0.mk (below_then HB.out HB.out.size hb); have HX1 := Aside0.mk (blk_below HX.out hb); clear HB HX hb; have HB := HB1; have HX := HX1; clear HB1 HX1; (try clear hk0 hk1 hk2 hk3 hk4 hk5); obtain ⟨hk0, hk1, hk2, hk3, hk4, hk5⟩ := box6 HX.out)
    | (go_at_call 14; (with_reducible refine (spec_Terms.calls a0 a1 a2 a3 a4 a5 _ _ TT.out).mono ?_); rintro en wt ⟨rfl, hd⟩; (first | have hb := hd.below | have hb := hd); clear hd; have HB1 := Aside0.mk (below_then HB.out HB.out.size hb); have HX1 := Aside0.mk (blk_below HX.out hb); clear HB HX hb; have HB := HB1; have HX := HX1; clear HB1 HX1; (try clear hk0 hk1 hk2 hk3 hk4 hk5); obtain ⟨hk0, hk1, hk2, hk3, hk4, hk5⟩ := box6 HX.out)
    | (go_at_call 15; (with_reducible refine (laws_logSmall.calls K A1 c1 b1 _ _ (Kd.C_below h1_.out HB.out) e1 P1.out).mono ?_); rintro en wp1 ⟨rfl, hd⟩; (first | have hb := hd.below | have hb := hd); clear hd; have HB1 := Aside0.mk (below_then HB.out HB.out.size hb); have HX1 := Aside0.mk (blk_below HX.out hb); clear HB HX hb; have HB := HB1; have HX := HX1; clear HB1 HX1; (try clear hk0 hk1 hk2 hk3 hk4 hk5); obtain ⟨hk0, hk1, hk2, hk3, hk4, hk5⟩ := box6 HX.out)
    | (go_at_call 15; (with_reducible refine (laws_logSmall.calls K A5 c5 b5 _ _ (Kd.C_below h5_.out HB.out) e5 P5.out).mono ?_); rintro en wp5 ⟨rfl, hd⟩; (first | have hb := hd.below | have hb := hd); clear hd; have HB1 := Aside0.mk (below_then HB.out HB.out.size hb); have HX1 := Aside0.mk (blk_below HX.out hb); clear HB HX hb; have HB := HB1; have HX := HX1; clear HB1 HX1; (try clear hk0 hk1 hk2 hk3 hk4 hk5); obtain ⟨hk0, hk1, hk2, hk3, hk4, hk5⟩ := box6 HX.out)
    | (go_at_call 15; (with_reducible refine (laws_logSmall.calls K A7 c7 b7 _ _ (Kd.C_below h7_.out HB.out) e7 P7.out).mono ?_); rintro en wp7 ⟨rfl, hd⟩; (first | have hb := hd.below | have hb := hd); clear hd; have HB1 := Aside0.mk (below_then HB.out HB.out.size hb); have HX1 := Aside0.mk (blk_below HX.out hb); clear HB HX hb; have HB := HB1; have HX := HX1; clear HB1 HX1; (try clear hk0 hk1 hk2 hk3 hk4 hk5); obtain ⟨hk0, hk1, hk2, hk3, hk4, hk5⟩ := box6 HX.out))
  go_ret
  exact ⟨rfl, HB.out⟩

set_option maxHeartbeats 2000000 in
set_option maxRecDepth 100000 in
theorem is13 (K : Nat) (a0 a1 a2 a3 a4 a5 : Int) (ix s1 : Nat) (A1 : Option Addr) (c1 : Nat) (b1 : List (List Int)) (A4 : Option Addr) (c4 : Nat) (b4 : List Int) (A5 : Option Addr) (c5 : Nat) (b5 : List (List Int)) (A6 : Option Addr) (c6 : Nat) (b6 : List Int) (A7 : Option Addr) (c7 : Nat) (b7 : List (List Int)) (w : World) (h1 : CL w A1 b1) (e1 : b1.length ≤ c1) (h4 : CB w A4 b4) (e4 : b4.length ≤ c4) (h5 : CL w A5 b5) (e5 : b5.length ≤ c5) (h6 : CB w A6 b6) (e6 : b6.length ≤ c6) (h7 : CL w A7 b7) (e7 : b7.length ≤ c7) (z1 : laws_zzFits2.f K b1 = some true) (t4 : decide (2147483647 < (b4.length : Int)) = false) (z5 : laws_zzFits2.f K b5 = some true) (t6 : decide (2147483647 < (b6.length : Int)) = false) (z7 : laws_zzFits2.f K b7 = some true) (hml : b1.length ≤ 2147483647) (tt : spec_Terms.f a0 a1 a2 a3 a4 a5 = some true) (p1 : laws_logSmall.f K b1 = some true) (p5 : laws_logSmall.f K b5 = some true) (p7 : laws_logSmall.f K b7 = some true) (u6 : decide (100000 < (b6.length : Int)) = false) (u4 : decide (5000 < (b4.length : Int)) = false) (v1 : decide (b1.length < s1) = false) (v1i : decide ((b1.length : Int) < (s1 : Int)) = false) (v2 : decide (s1 ≤ ix) = true) (v2i : decide ((s1 : Int) ≤ (ix : Int)) = true) :
    Calls Tryd.prog 10 #[.agg #[.int .i64 a0, .int .i64 a1, .int .i64 a2, .int .u64 a3, .int .u64 a4, .int .u64 a5], .slice A1 b1.length c1, .int .u64 (ix : Int), .int .u64 (s1 : Int), .slice A4 b4.length c4, .slice A5 b5.length c5, .slice A6 b6.length c6, .slice A7 b7.length c7] w fun en w' => en = .returned (.bool true) ∧ Below w.heap.size w w' := by
  have h1_ := Aside0.mk h1
  have h4_ := Aside0.mk h4
  have h5_ := Aside0.mk h5
  have h6_ := Aside0.mk h6
  have h7_ := Aside0.mk h7
  clear h1 h4 h5 h6 h7
  have _u := And.intro e1 (And.intro e4 (And.intro e5 (And.intro e6 (And.intro e7 (Eq.refl K)))))
  clear _u
  have HB : Aside0 (Below w.heap.size w (w.alloc (.cells #[.int .i64 a0, .int .i64 a1, .int .i64 a2, .int .u64 a3, .int .u64 a4, .int .u64 a5] 24))) := ⟨below_alloc (Below.refl _ _) _⟩
  have HX : Aside0 ((w.alloc (.cells #[.int .i64 a0, .int .i64 a1, .int .i64 a2, .int .u64 a3, .int .u64 a4, .int .u64 a5] 24)).heap[w.heap.size]? = some (.cells #[.int .i64 a0, .int .i64 a1, .int .i64 a2, .int .u64 a3, .int .u64 a4, .int .u64 a5] 24 (0, 0))) := ⟨heap_alloc_new w (.cells #[.int .i64 a0, .int .i64 a1, .int .i64 a2, .int .u64 a3, .int .u64 a4, .int .u64 a5] 24)⟩
  have _v := And.intro v1i (And.intro v2i (Eq.refl K))
  clear _v
  have Z1 := Aside0.mk z1
  clear z1
  have Z5 := Aside0.mk z5
  clear z5
  have Z7 := Aside0.mk z7
  clear z7
  have TT := Aside0.mk tt
  clear tt
  have P1 := Aside0.mk p1
  clear p1
  have P5 := Aside0.mk p5
  clear p5
  have P7 := Aside0.mk p7
  clear p7
  have ML := Aside0.mk hml
  clear hml
  have hw : ∀ z : Int, z = (b1.length : Int) → IntKind.u64.wrap z = (b1.length : Int) := fun z hz => by
    rw [hz]
    show (b1.length : Int) % 18446744073709551616 = _
    have := ML.out
    omega
  go_enter Tryd.func10, Tryd.ntmps10
  go_wp2_with fail
  go_wp2_with (first
    | (go_at_call 13; (with_reducible refine (laws_zzFits2.calls K A1 c1 b1 _ _ (Kd.C_below h1_.out HB.out) e1 Z1.out).mono ?_); rintro en wz1 ⟨rfl, hd⟩; (first | have hb := hd.below | have hb := hd); clear hd; have HB1 := Aside0.mk (below_then HB.out HB.out.size hb); have HX1 := Aside0.mk (blk_below HX.out hb); clear HB HX hb; have HB := HB1; have HX := HX1; clear HB1 HX1; (try clear hk0 hk1 hk2 hk3 hk4 hk5); obtain ⟨hk0, hk1, hk2, hk3, hk4, hk5⟩ := box6 HX.out)
    | (go_at_call 13; (with_reducible refine (laws_zzFits2.calls K A5 c5 b5 _ _ (Kd.C_below h5_.out HB.out) e5 Z5.out).mono ?_); rintro en wz5 ⟨rfl, hd⟩; (first | have hb := hd.below | have hb := hd); clear hd; have HB1 := Aside0.mk (below_then HB.out HB.out.size hb); have HX1 := Aside0.mk (blk_below HX.out hb); clear HB HX hb; have HB := HB1; have HX := HX1; clear HB1 HX1; (try clear hk0 hk1 hk2 hk3 hk4 hk5); obtain ⟨hk0, hk1, hk2, hk3, hk4, hk5⟩ := box6 HX.out)
    | (go_at_call 13; (with_reducible refine (laws_zzFits2.calls K A7 c7 b7 _ _ (Kd.C_below h7_.out HB.out) e7 Z7.out).mono ?_); rintro en wz7 ⟨rfl, hd⟩; (first | have hb := hd.below | have hb := hd); clear hd; have HB1 := Aside0.mk (below_then HB.out HB.out.size hb); have HX1 := Aside0.mk (blk_below HX.out hb); clear HB HX hb; have HB := HB1; have HX := HX1; clear HB1 HX1; (try clear hk0 hk1 hk2 hk3 hk4 hk5); obtain ⟨hk0, hk1, hk2, hk3, hk4, hk5⟩ := box6 HX.out)
    | (go_at_call 14; (with_reducible refine (spec_Terms.calls a0 a1 a2 a3 a4 a5 _ _ TT.out).mono ?_); rintro en wt ⟨rfl, hd⟩; (first | have hb := hd.below | have hb := hd); clear hd; have HB1 := Aside0.mk (below_then HB.out HB.out.size hb); have HX1 := Aside0.mk (blk_below HX.out hb); clear HB HX hb; have HB := HB1; have HX := HX1; clear HB1 HX1; (try clear hk0 hk1 hk2 hk3 hk4 hk5); obtain ⟨hk0, hk1, hk2, hk3, hk4, hk5⟩ := box6 HX.out)
    | (go_at_call 15; (with_reducible refine (laws_logSmall.calls K A1 c1 b1 _ _ (Kd.C_below h1_.out HB.out) e1 P1.out).mono ?_); rintro en wp1 ⟨rfl, hd⟩; (first | have hb := hd.below | have hb := hd); clear hd; have HB1 := Aside0.mk (below_then HB.out HB.out.size hb); have HX1 := Aside0.mk (blk_below HX.out hb); clear HB HX hb; have HB := HB1; have HX := HX1; clear HB1 HX1; (try clear hk0 hk1 hk2 hk3 hk4 hk5); obtain ⟨hk0, hk1, hk2, hk3, hk4, hk5⟩ := box6 HX.out)
    | (go_at_call 15; (with_reducible refine (laws_logSmall.calls K A5 c5 b5 _ _ (Kd.C_below h5_.out HB.out) e5 P5.out).mono ?_); rintro en wp5 ⟨rfl, hd⟩; (first | have hb := hd.below | have hb := hd); clear hd; have HB1 := Aside0.mk (below_then HB.out HB.out.size hb); have HX1 := Aside0.mk (blk_below HX.out hb); clear HB HX hb; have HB := HB1; have HX := HX1; clear HB1 HX1; (try clear hk0 hk1 hk2 hk3 hk4 hk5); obtain ⟨hk0, hk1, hk2, hk3, hk4, hk5⟩ := box6 HX.out)
    | (go_at_call 15; (with_reducible refine (laws_logSmall.calls K A7 c7 b7 _ _ (Kd.C_below h7_.out HB.out) e7 P7.out).mono ?_); rintro en wp7 ⟨rfl, hd⟩; (first | have hb := hd.below | have hb := hd); clear hd; have HB1 := Aside0.mk (below_then HB.out HB.out.size hb); have HX1 := Aside0.mk (blk_below HX.out hb); clear HB HX hb; have HB := HB1; have HX := HX1; clear HB1 HX1; (try clear hk0 hk1 hk2 hk3 hk4 hk5); obtain ⟨hk0, hk1, hk2, hk3, hk4, hk5⟩ := box6 HX.out))
  go_ret
  exact ⟨rfl, HB.out⟩

set_option maxHeartbeats 4000000 in
set_option maxRecDepth 100000 in
theorem is14 (K : Nat) (a0 a1 a2 a3 a4 a5 : Int) (ix s1 : Nat) (A1 : Option Addr) (c1 : Nat) (b1 : List (List Int)) (A4 : Option Addr) (c4 : Nat) (b4 : List Int) (A5 : Option Addr) (c5 : Nat) (b5 : List (List Int)) (A6 : Option Addr) (c6 : Nat) (b6 : List Int) (A7 : Option Addr) (c7 : Nat) (b7 : List (List Int)) (w : World) (h1 : CL w A1 b1) (e1 : b1.length ≤ c1) (h4 : CB w A4 b4) (e4 : b4.length ≤ c4) (h5 : CL w A5 b5) (e5 : b5.length ≤ c5) (h6 : CB w A6 b6) (e6 : b6.length ≤ c6) (h7 : CL w A7 b7) (e7 : b7.length ≤ c7) (z1 : laws_zzFits2.f K b1 = some true) (t4 : decide (2147483647 < (b4.length : Int)) = false) (z5 : laws_zzFits2.f K b5 = some true) (t6 : decide (2147483647 < (b6.length : Int)) = false) (z7 : laws_zzFits2.f K b7 = some true) (hml : b1.length ≤ 2147483647) (tt : spec_Terms.f a0 a1 a2 a3 a4 a5 = some true) (p1 : laws_logSmall.f K b1 = some true) (p5 : laws_logSmall.f K b5 = some true) (p7 : laws_logSmall.f K b7 = some true) (u6 : decide (100000 < (b6.length : Int)) = false) (u4 : decide (5000 < (b4.length : Int)) = false) (v1 : decide (b1.length < s1) = false) (v1i : decide ((b1.length : Int) < (s1 : Int)) = false) (v2 : decide (s1 ≤ ix) = false) (v2i : decide ((s1 : Int) ≤ (ix : Int)) = false) (hix : ix < b1.length) (r : List Int) (hrl : r.length ≤ 140737488351232) (kr : Nat) (rt : spec_Root.f kr a0 a1 a2 a3 a4 a5 b1 = some r) (st : spec_SameText.f r r = some true) (tr : ∀ W : World, Below w.heap.size w W → Calls Tryd.prog 36 #[.agg #[.int .i64 a0, .int .i64 a1, .int .i64 a2, .int .u64 a3, .int .u64 a4, .int .u64 a5], .slice A1 b1.length c1, .int .u64 (b1.length : Int)] W fun en w' => ∃ Ar cr, en = .returned (.tuple #[.slice Ar r.length cr, .bool true]) ∧ r.length ≤ cr ∧ CB w' Ar r ∧ Below W.heap.size W w') (n1 n2 : Int) (q1 q2 : List Int) (vi : ∀ W : World, Below w.heap.size w W → Calls Tryd.prog 38 #[.agg #[.int .i64 a0, .int .i64 a1, .int .i64 a2, .int .u64 a3, .int .u64 a4, .int .u64 a5], .int .u64 (ix : Int), .int .u64 (s1 : Int), .slice A4 b4.length c4, .slice A5 b5.length c5, .slice A6 b6.length c6] W fun e w' => ∃ v2, e = .returned (.tuple #[.int .i64 n1, v2]) ∧ Kd.R (Kd.int .u8) 5 w' W.heap.size (fun _ => True) v2 q1 ∧ Below W.heap.size W w') (vc : ∀ (W : World) (A : Option Addr) (c : Nat), Below w.heap.size w W → CB W A r → r.length ≤ c → Calls Tryd.prog 23 #[.agg #[.int .i64 a0, .int .i64 a1, .int .i64 a2, .int .u64 a3, .int .u64 a4, .int .u64 a5], .int .u64 (s1 : Int), .int .u64 (b1.length : Int), .slice A7 b7.length c7, .slice A6 b6.length c6, .slice A r.length c] W fun e w' => ∃ v2, e = .returned (.tuple #[.int .i64 n2, v2]) ∧ Kd.R (Kd.int .u8) 5 w' W.heap.size (fun _ => True) v2 q2 ∧ Below W.heap.size W w') (g1 : (n1 != 0) = true) :
    Calls Tryd.prog 10 #[.agg #[.int .i64 a0, .int .i64 a1, .int .i64 a2, .int .u64 a3, .int .u64 a4, .int .u64 a5], .slice A1 b1.length c1, .int .u64 (ix : Int), .int .u64 (s1 : Int), .slice A4 b4.length c4, .slice A5 b5.length c5, .slice A6 b6.length c6, .slice A7 b7.length c7] w fun en w' => en = .returned (.bool true) ∧ Below w.heap.size w w' := by
  have h1_ := Aside0.mk h1
  have h4_ := Aside0.mk h4
  have h5_ := Aside0.mk h5
  have h6_ := Aside0.mk h6
  have h7_ := Aside0.mk h7
  clear h1 h4 h5 h6 h7
  have _u := And.intro e1 (And.intro e4 (And.intro e5 (And.intro e6 (And.intro e7 (Eq.refl K)))))
  clear _u
  have HB : Aside0 (Below w.heap.size w (w.alloc (.cells #[.int .i64 a0, .int .i64 a1, .int .i64 a2, .int .u64 a3, .int .u64 a4, .int .u64 a5] 24))) := ⟨below_alloc (Below.refl _ _) _⟩
  have HX : Aside0 ((w.alloc (.cells #[.int .i64 a0, .int .i64 a1, .int .i64 a2, .int .u64 a3, .int .u64 a4, .int .u64 a5] 24)).heap[w.heap.size]? = some (.cells #[.int .i64 a0, .int .i64 a1, .int .i64 a2, .int .u64 a3, .int .u64 a4, .int .u64 a5] 24 (0, 0))) := ⟨heap_alloc_new w (.cells #[.int .i64 a0, .int .i64 a1, .int .i64 a2, .int .u64 a3, .int .u64 a4, .int .u64 a5] 24)⟩
  have _v := And.intro v1i (And.intro v2i (Eq.refl K))
  clear _v
  have Z1 := Aside0.mk z1
  clear z1
  have Z5 := Aside0.mk z5
  clear z5
  have Z7 := Aside0.mk z7
  clear z7
  have TT := Aside0.mk tt
  clear tt
  have P1 := Aside0.mk p1
  clear p1
  have P5 := Aside0.mk p5
  clear p5
  have P7 := Aside0.mk p7
  clear p7
  have RT := Aside0.mk rt
  clear rt
  have ST := Aside0.mk st
  clear st
  have TR := Aside0.mk tr
  clear tr
  have VI := Aside0.mk vi
  clear vi
  have VC := Aside0.mk vc
  clear vc
  have HRL := Aside0.mk hrl
  clear hrl
  have ML := Aside0.mk hml
  clear hml
  have hw : ∀ z : Int, z = (b1.length : Int) → IntKind.u64.wrap z = (b1.length : Int) := fun z hz => by
    rw [hz]
    show (b1.length : Int) % 18446744073709551616 = _
    have := ML.out
    omega
  go_enter Tryd.func10, Tryd.ntmps10
  go_wp2_with fail
  go_wp2_with (first
    | (go_at_call 13; (with_reducible refine (laws_zzFits2.calls K A1 c1 b1 _ _ (Kd.C_below h1_.out HB.out) e1 Z1.out).mono ?_); rintro en wz1 ⟨rfl, hd⟩; (first | have hb := hd.below | have hb := hd); clear hd; have HB1 := Aside0.mk (below_then HB.out HB.out.size hb); have HX1 := Aside0.mk (blk_below HX.out hb); clear HB HX hb; have HB := HB1; have HX := HX1; clear HB1 HX1; (try clear hk0 hk1 hk2 hk3 hk4 hk5); obtain ⟨hk0, hk1, hk2, hk3, hk4, hk5⟩ := box6 HX.out)
    | (go_at_call 13; (with_reducible refine (laws_zzFits2.calls K A5 c5 b5 _ _ (Kd.C_below h5_.out HB.out) e5 Z5.out).mono ?_); rintro en wz5 ⟨rfl, hd⟩; (first | have hb := hd.below | have hb := hd); clear hd; have HB1 := Aside0.mk (below_then HB.out HB.out.size hb); have HX1 := Aside0.mk (blk_below HX.out hb); clear HB HX hb; have HB := HB1; have HX := HX1; clear HB1 HX1; (try clear hk0 hk1 hk2 hk3 hk4 hk5); obtain ⟨hk0, hk1, hk2, hk3, hk4, hk5⟩ := box6 HX.out)
    | (go_at_call 13; (with_reducible refine (laws_zzFits2.calls K A7 c7 b7 _ _ (Kd.C_below h7_.out HB.out) e7 Z7.out).mono ?_); rintro en wz7 ⟨rfl, hd⟩; (first | have hb := hd.below | have hb := hd); clear hd; have HB1 := Aside0.mk (below_then HB.out HB.out.size hb); have HX1 := Aside0.mk (blk_below HX.out hb); clear HB HX hb; have HB := HB1; have HX := HX1; clear HB1 HX1; (try clear hk0 hk1 hk2 hk3 hk4 hk5); obtain ⟨hk0, hk1, hk2, hk3, hk4, hk5⟩ := box6 HX.out)
    | (go_at_call 14; (with_reducible refine (spec_Terms.calls a0 a1 a2 a3 a4 a5 _ _ TT.out).mono ?_); rintro en wt ⟨rfl, hd⟩; (first | have hb := hd.below | have hb := hd); clear hd; have HB1 := Aside0.mk (below_then HB.out HB.out.size hb); have HX1 := Aside0.mk (blk_below HX.out hb); clear HB HX hb; have HB := HB1; have HX := HX1; clear HB1 HX1; (try clear hk0 hk1 hk2 hk3 hk4 hk5); obtain ⟨hk0, hk1, hk2, hk3, hk4, hk5⟩ := box6 HX.out)
    | (go_at_call 15; (with_reducible refine (laws_logSmall.calls K A1 c1 b1 _ _ (Kd.C_below h1_.out HB.out) e1 P1.out).mono ?_); rintro en wp1 ⟨rfl, hd⟩; (first | have hb := hd.below | have hb := hd); clear hd; have HB1 := Aside0.mk (below_then HB.out HB.out.size hb); have HX1 := Aside0.mk (blk_below HX.out hb); clear HB HX hb; have HB := HB1; have HX := HX1; clear HB1 HX1; (try clear hk0 hk1 hk2 hk3 hk4 hk5); obtain ⟨hk0, hk1, hk2, hk3, hk4, hk5⟩ := box6 HX.out)
    | (go_at_call 15; (with_reducible refine (laws_logSmall.calls K A5 c5 b5 _ _ (Kd.C_below h5_.out HB.out) e5 P5.out).mono ?_); rintro en wp5 ⟨rfl, hd⟩; (first | have hb := hd.below | have hb := hd); clear hd; have HB1 := Aside0.mk (below_then HB.out HB.out.size hb); have HX1 := Aside0.mk (blk_below HX.out hb); clear HB HX hb; have HB := HB1; have HX := HX1; clear HB1 HX1; (try clear hk0 hk1 hk2 hk3 hk4 hk5); obtain ⟨hk0, hk1, hk2, hk3, hk4, hk5⟩ := box6 HX.out)
    | (go_at_call 15; (with_reducible refine (laws_logSmall.calls K A7 c7 b7 _ _ (Kd.C_below h7_.out HB.out) e7 P7.out).mono ?_); rintro en wp7 ⟨rfl, hd⟩; (first | have hb := hd.below | have hb := hd); clear hd; have HB1 := Aside0.mk (below_then HB.out HB.out.size hb); have HX1 := Aside0.mk (blk_below HX.out hb); clear HB HX hb; have HB := HB1; have HX := HX1; clear HB1 HX1; (try clear hk0 hk1 hk2 hk3 hk4 hk5); obtain ⟨hk0, hk1, hk2, hk3, hk4, hk5⟩ := box6 HX.out))
  go_wp2_with (first
    | (go_at_call 36; (with_reducible refine (TR.out _ HB.out).mono ?_); rintro en wr ⟨Ar, cr, rfl, hlr, hCr, hb⟩; have HLR := Aside0.mk hlr; have HCR := Aside0.mk hCr; clear hlr hCr; have HB1 := Aside0.mk (below_then HB.out HB.out.size hb); have HX1 := Aside0.mk (blk_below HX.out hb); clear HB HX hb; have HB := HB1; have HX := HX1; clear HB1 HX1; (try clear hk0 hk1 hk2 hk3 hk4 hk5); obtain ⟨hk0, hk1, hk2, hk3, hk4, hk5⟩ := box6 HX.out))
  go_wp2_with (first
    | (go_at_call 37; (with_reducible refine (root_arg (Kd.C_below h1_.out HB.out) e1 RT.out).mono ?_); rintro en wq ⟨Aq, cq, rfl, hlq, hCq, hb⟩; have HLQ := Aside0.mk hlq; have HCQ := Aside0.mk hCq; have HCR2 := Aside0.mk (Kd.C_below HCR.out hb); clear hlq hCq HCR; have HB1 := Aside0.mk (below_then HB.out HB.out.size hb); have HX1 := Aside0.mk (blk_below HX.out hb); clear HB HX hb; have HB := HB1; have HX := HX1; clear HB1 HX1; (try clear hk0 hk1 hk2 hk3 hk4 hk5); obtain ⟨hk0, hk1, hk2, hk3, hk4, hk5⟩ := box6 HX.out))
  go_wp2_with (first
    | (go_at_call 17; (with_reducible refine (spec_SameText.calls Ar cr r Aq cq r true _ HCR2.out HLR.out HCQ.out HLQ.out ST.out).mono ?_); rintro en ws ⟨rfl, hd⟩; (first | have hb := hd.below | have hb := hd); clear hd; have HCR3 := Aside0.mk (Kd.C_below HCR2.out hb); clear HCR2; have HB1 := Aside0.mk (below_then HB.out HB.out.size hb); have HX1 := Aside0.mk (blk_below HX.out hb); clear HB HX hb; have HB := HB1; have HX := HX1; clear HB1 HX1; (try clear hk0 hk1 hk2 hk3 hk4 hk5); obtain ⟨hk0, hk1, hk2, hk3, hk4, hk5⟩ := box6 HX.out))
  go_wp2_with (first
    | (go_at_call 38; (with_reducible refine (VI.out _ HB.out).mono ?_); rintro en wv ⟨v3, rfl, hR3, hb⟩; obtain ⟨A3, c3, rfl⟩ := Kd.R_slice hR3; have HCR4 := Aside0.mk (Kd.C_below HCR3.out hb); clear hR3 HCR3; have HB1 := Aside0.mk (below_then HB.out HB.out.size hb); have HX1 := Aside0.mk (blk_below HX.out hb); clear HB HX hb; have HB := HB1; have HX := HX1; clear HB1 HX1; (try clear hk0 hk1 hk2 hk3 hk4 hk5); obtain ⟨hk0, hk1, hk2, hk3, hk4, hk5⟩ := box6 HX.out))
  go_wp2_with (first
    | (go_at_call 23; (with_reducible refine (VC.out _ Ar cr HB.out HCR4.out HLR.out).mono ?_); rintro en wc ⟨v8, rfl, hR8, hb⟩; obtain ⟨A8, c8, rfl⟩ := Kd.R_slice hR8; clear hR8 HCR4; have HB1 := Aside0.mk (below_then HB.out HB.out.size hb); have HX1 := Aside0.mk (blk_below HX.out hb); clear HB HX hb; have HB := HB1; have HX := HX1; clear HB1 HX1; (try clear hk0 hk1 hk2 hk3 hk4 hk5); obtain ⟨hk0, hk1, hk2, hk3, hk4, hk5⟩ := box6 HX.out))
  go_ret
  exact ⟨by first | rfl | simp, HB.out⟩

set_option maxHeartbeats 4000000 in
set_option maxRecDepth 100000 in
theorem is15 (K : Nat) (a0 a1 a2 a3 a4 a5 : Int) (ix s1 : Nat) (A1 : Option Addr) (c1 : Nat) (b1 : List (List Int)) (A4 : Option Addr) (c4 : Nat) (b4 : List Int) (A5 : Option Addr) (c5 : Nat) (b5 : List (List Int)) (A6 : Option Addr) (c6 : Nat) (b6 : List Int) (A7 : Option Addr) (c7 : Nat) (b7 : List (List Int)) (w : World) (h1 : CL w A1 b1) (e1 : b1.length ≤ c1) (h4 : CB w A4 b4) (e4 : b4.length ≤ c4) (h5 : CL w A5 b5) (e5 : b5.length ≤ c5) (h6 : CB w A6 b6) (e6 : b6.length ≤ c6) (h7 : CL w A7 b7) (e7 : b7.length ≤ c7) (z1 : laws_zzFits2.f K b1 = some true) (t4 : decide (2147483647 < (b4.length : Int)) = false) (z5 : laws_zzFits2.f K b5 = some true) (t6 : decide (2147483647 < (b6.length : Int)) = false) (z7 : laws_zzFits2.f K b7 = some true) (hml : b1.length ≤ 2147483647) (tt : spec_Terms.f a0 a1 a2 a3 a4 a5 = some true) (p1 : laws_logSmall.f K b1 = some true) (p5 : laws_logSmall.f K b5 = some true) (p7 : laws_logSmall.f K b7 = some true) (u6 : decide (100000 < (b6.length : Int)) = false) (u4 : decide (5000 < (b4.length : Int)) = false) (v1 : decide (b1.length < s1) = false) (v1i : decide ((b1.length : Int) < (s1 : Int)) = false) (v2 : decide (s1 ≤ ix) = false) (v2i : decide ((s1 : Int) ≤ (ix : Int)) = false) (hix : ix < b1.length) (r : List Int) (hrl : r.length ≤ 140737488351232) (kr : Nat) (rt : spec_Root.f kr a0 a1 a2 a3 a4 a5 b1 = some r) (st : spec_SameText.f r r = some true) (tr : ∀ W : World, Below w.heap.size w W → Calls Tryd.prog 36 #[.agg #[.int .i64 a0, .int .i64 a1, .int .i64 a2, .int .u64 a3, .int .u64 a4, .int .u64 a5], .slice A1 b1.length c1, .int .u64 (b1.length : Int)] W fun en w' => ∃ Ar cr, en = .returned (.tuple #[.slice Ar r.length cr, .bool true]) ∧ r.length ≤ cr ∧ CB w' Ar r ∧ Below W.heap.size W w') (n1 n2 : Int) (q1 q2 : List Int) (vi : ∀ W : World, Below w.heap.size w W → Calls Tryd.prog 38 #[.agg #[.int .i64 a0, .int .i64 a1, .int .i64 a2, .int .u64 a3, .int .u64 a4, .int .u64 a5], .int .u64 (ix : Int), .int .u64 (s1 : Int), .slice A4 b4.length c4, .slice A5 b5.length c5, .slice A6 b6.length c6] W fun e w' => ∃ v2, e = .returned (.tuple #[.int .i64 n1, v2]) ∧ Kd.R (Kd.int .u8) 5 w' W.heap.size (fun _ => True) v2 q1 ∧ Below W.heap.size W w') (vc : ∀ (W : World) (A : Option Addr) (c : Nat), Below w.heap.size w W → CB W A r → r.length ≤ c → Calls Tryd.prog 23 #[.agg #[.int .i64 a0, .int .i64 a1, .int .i64 a2, .int .u64 a3, .int .u64 a4, .int .u64 a5], .int .u64 (s1 : Int), .int .u64 (b1.length : Int), .slice A7 b7.length c7, .slice A6 b6.length c6, .slice A r.length c] W fun e w' => ∃ v2, e = .returned (.tuple #[.int .i64 n2, v2]) ∧ Kd.R (Kd.int .u8) 5 w' W.heap.size (fun _ => True) v2 q2 ∧ Below W.heap.size W w') (g1 : (n1 != 0) = false) (g2 : (n2 != 0) = true) :
    Calls Tryd.prog 10 #[.agg #[.int .i64 a0, .int .i64 a1, .int .i64 a2, .int .u64 a3, .int .u64 a4, .int .u64 a5], .slice A1 b1.length c1, .int .u64 (ix : Int), .int .u64 (s1 : Int), .slice A4 b4.length c4, .slice A5 b5.length c5, .slice A6 b6.length c6, .slice A7 b7.length c7] w fun en w' => en = .returned (.bool true) ∧ Below w.heap.size w w' := by
  have h1_ := Aside0.mk h1
  have h4_ := Aside0.mk h4
  have h5_ := Aside0.mk h5
  have h6_ := Aside0.mk h6
  have h7_ := Aside0.mk h7
  clear h1 h4 h5 h6 h7
  have _u := And.intro e1 (And.intro e4 (And.intro e5 (And.intro e6 (And.intro e7 (Eq.refl K)))))
  clear _u
  have HB : Aside0 (Below w.heap.size w (w.alloc (.cells #[.int .i64 a0, .int .i64 a1, .int .i64 a2, .int .u64 a3, .int .u64 a4, .int .u64 a5] 24))) := ⟨below_alloc (Below.refl _ _) _⟩
  have HX : Aside0 ((w.alloc (.cells #[.int .i64 a0, .int .i64 a1, .int .i64 a2, .int .u64 a3, .int .u64 a4, .int .u64 a5] 24)).heap[w.heap.size]? = some (.cells #[.int .i64 a0, .int .i64 a1, .int .i64 a2, .int .u64 a3, .int .u64 a4, .int .u64 a5] 24 (0, 0))) := ⟨heap_alloc_new w (.cells #[.int .i64 a0, .int .i64 a1, .int .i64 a2, .int .u64 a3, .int .u64 a4, .int .u64 a5] 24)⟩
  have _v := And.intro v1i (And.intro v2i (Eq.refl K))
  clear _v
  have Z1 := Aside0.mk z1
  clear z1
  have Z5 := Aside0.mk z5
  clear z5
  have Z7 := Aside0.mk z7
  clear z7
  have TT := Aside0.mk tt
  clear tt
  have P1 := Aside0.mk p1
  clear p1
  have P5 := Aside0.mk p5
  clear p5
  have P7 := Aside0.mk p7
  clear p7
  have RT := Aside0.mk rt
  clear rt
  have ST := Aside0.mk st
  clear st
  have TR := Aside0.mk tr
  clear tr
  have VI := Aside0.mk vi
  clear vi
  have VC := Aside0.mk vc
  clear vc
  have HRL := Aside0.mk hrl
  clear hrl
  have ML := Aside0.mk hml
  clear hml
  have hw : ∀ z : Int, z = (b1.length : Int) → IntKind.u64.wrap z = (b1.length : Int) := fun z hz => by
    rw [hz]
    show (b1.length : Int) % 18446744073709551616 = _
    have := ML.out
    omega
  go_enter Tryd.func10, Tryd.ntmps10
  go_wp2_with fail
  go_wp2_with (first
    | (go_at_call 13; (with_reducible refine (laws_zzFits2.calls K A1 c1 b1 _ _ (Kd.C_below h1_.out HB.out) e1 Z1.out).mono ?_); rintro en wz1 ⟨rfl, hd⟩; (first | have hb := hd.below | have hb := hd); clear hd; have HB1 := Aside0.mk (below_then HB.out HB.out.size hb); have HX1 := Aside0.mk (blk_below HX.out hb); clear HB HX hb; have HB := HB1; have HX := HX1; clear HB1 HX1; (try clear hk0 hk1 hk2 hk3 hk4 hk5); obtain ⟨hk0, hk1, hk2, hk3, hk4, hk5⟩ := box6 HX.out)
    | (go_at_call 13; (with_reducible refine (laws_zzFits2.calls K A5 c5 b5 _ _ (Kd.C_below h5_.out HB.out) e5 Z5.out).mono ?_); rintro en wz5 ⟨rfl, hd⟩; (first | have hb := hd.below | have hb := hd); clear hd; have HB1 := Aside0.mk (below_then HB.out HB.out.size hb); have HX1 := Aside0.mk (blk_below HX.out hb); clear HB HX hb; have HB := HB1; have HX := HX1; clear HB1 HX1; (try clear hk0 hk1 hk2 hk3 hk4 hk5); obtain ⟨hk0, hk1, hk2, hk3, hk4, hk5⟩ := box6 HX.out)
    | (go_at_call 13; (with_reducible refine (laws_zzFits2.calls K A7 c7 b7 _ _ (Kd.C_below h7_.out HB.out) e7 Z7.out).mono ?_); rintro en wz7 ⟨rfl, hd⟩; (first | have hb := hd.below | have hb := hd); clear hd; have HB1 := Aside0.mk (below_then HB.out HB.out.size hb); have HX1 := Aside0.mk (blk_below HX.out hb); clear HB HX hb; have HB := HB1; have HX := HX1; clear HB1 HX1; (try clear hk0 hk1 hk2 hk3 hk4 hk5); obtain ⟨hk0, hk1, hk2, hk3, hk4, hk5⟩ := box6 HX.out)
    | (go_at_call 14; (with_reducible refine (spec_Terms.calls a0 a1 a2 a3 a4 a5 _ _ TT.out).mono ?_); rintro en wt ⟨rfl, hd⟩; (first | have hb := hd.below | have hb := hd); clear hd; have HB1 := Aside0.mk (below_then HB.out HB.out.size hb); have HX1 := Aside0.mk (blk_below HX.out hb); clear HB HX hb; have HB := HB1; have HX := HX1; clear HB1 HX1; (try clear hk0 hk1 hk2 hk3 hk4 hk5); obtain ⟨hk0, hk1, hk2, hk3, hk4, hk5⟩ := box6 HX.out)
    | (go_at_call 15; (with_reducible refine (laws_logSmall.calls K A1 c1 b1 _ _ (Kd.C_below h1_.out HB.out) e1 P1.out).mono ?_); rintro en wp1 ⟨rfl, hd⟩; (first | have hb := hd.below | have hb := hd); clear hd; have HB1 := Aside0.mk (below_then HB.out HB.out.size hb); have HX1 := Aside0.mk (blk_below HX.out hb); clear HB HX hb; have HB := HB1; have HX := HX1; clear HB1 HX1; (try clear hk0 hk1 hk2 hk3 hk4 hk5); obtain ⟨hk0, hk1, hk2, hk3, hk4, hk5⟩ := box6 HX.out)
    | (go_at_call 15; (with_reducible refine (laws_logSmall.calls K A5 c5 b5 _ _ (Kd.C_below h5_.out HB.out) e5 P5.out).mono ?_); rintro en wp5 ⟨rfl, hd⟩; (first | have hb := hd.below | have hb := hd); clear hd; have HB1 := Aside0.mk (below_then HB.out HB.out.size hb); have HX1 := Aside0.mk (blk_below HX.out hb); clear HB HX hb; have HB := HB1; have HX := HX1; clear HB1 HX1; (try clear hk0 hk1 hk2 hk3 hk4 hk5); obtain ⟨hk0, hk1, hk2, hk3, hk4, hk5⟩ := box6 HX.out)
    | (go_at_call 15; (with_reducible refine (laws_logSmall.calls K A7 c7 b7 _ _ (Kd.C_below h7_.out HB.out) e7 P7.out).mono ?_); rintro en wp7 ⟨rfl, hd⟩; (first | have hb := hd.below | have hb := hd); clear hd; have HB1 := Aside0.mk (below_then HB.out HB.out.size hb); have HX1 := Aside0.mk (blk_below HX.out hb); clear HB HX hb; have HB := HB1; have HX := HX1; clear HB1 HX1; (try clear hk0 hk1 hk2 hk3 hk4 hk5); obtain ⟨hk0, hk1, hk2, hk3, hk4, hk5⟩ := box6 HX.out))
  go_wp2_with (first
    | (go_at_call 36; (with_reducible refine (TR.out _ HB.out).mono ?_); rintro en wr ⟨Ar, cr, rfl, hlr, hCr, hb⟩; have HLR := Aside0.mk hlr; have HCR := Aside0.mk hCr; clear hlr hCr; have HB1 := Aside0.mk (below_then HB.out HB.out.size hb); have HX1 := Aside0.mk (blk_below HX.out hb); clear HB HX hb; have HB := HB1; have HX := HX1; clear HB1 HX1; (try clear hk0 hk1 hk2 hk3 hk4 hk5); obtain ⟨hk0, hk1, hk2, hk3, hk4, hk5⟩ := box6 HX.out))
  go_wp2_with (first
    | (go_at_call 37; (with_reducible refine (root_arg (Kd.C_below h1_.out HB.out) e1 RT.out).mono ?_); rintro en wq ⟨Aq, cq, rfl, hlq, hCq, hb⟩; have HLQ := Aside0.mk hlq; have HCQ := Aside0.mk hCq; have HCR2 := Aside0.mk (Kd.C_below HCR.out hb); clear hlq hCq HCR; have HB1 := Aside0.mk (below_then HB.out HB.out.size hb); have HX1 := Aside0.mk (blk_below HX.out hb); clear HB HX hb; have HB := HB1; have HX := HX1; clear HB1 HX1; (try clear hk0 hk1 hk2 hk3 hk4 hk5); obtain ⟨hk0, hk1, hk2, hk3, hk4, hk5⟩ := box6 HX.out))
  go_wp2_with (first
    | (go_at_call 17; (with_reducible refine (spec_SameText.calls Ar cr r Aq cq r true _ HCR2.out HLR.out HCQ.out HLQ.out ST.out).mono ?_); rintro en ws ⟨rfl, hd⟩; (first | have hb := hd.below | have hb := hd); clear hd; have HCR3 := Aside0.mk (Kd.C_below HCR2.out hb); clear HCR2; have HB1 := Aside0.mk (below_then HB.out HB.out.size hb); have HX1 := Aside0.mk (blk_below HX.out hb); clear HB HX hb; have HB := HB1; have HX := HX1; clear HB1 HX1; (try clear hk0 hk1 hk2 hk3 hk4 hk5); obtain ⟨hk0, hk1, hk2, hk3, hk4, hk5⟩ := box6 HX.out))
  go_wp2_with (first
    | (go_at_call 38; (with_reducible refine (VI.out _ HB.out).mono ?_); rintro en wv ⟨v3, rfl, hR3, hb⟩; obtain ⟨A3, c3, rfl⟩ := Kd.R_slice hR3; have HCR4 := Aside0.mk (Kd.C_below HCR3.out hb); clear hR3 HCR3; have HB1 := Aside0.mk (below_then HB.out HB.out.size hb); have HX1 := Aside0.mk (blk_below HX.out hb); clear HB HX hb; have HB := HB1; have HX := HX1; clear HB1 HX1; (try clear hk0 hk1 hk2 hk3 hk4 hk5); obtain ⟨hk0, hk1, hk2, hk3, hk4, hk5⟩ := box6 HX.out))
  go_wp2_with (first
    | (go_at_call 23; (with_reducible refine (VC.out _ Ar cr HB.out HCR4.out HLR.out).mono ?_); rintro en wc ⟨v8, rfl, hR8, hb⟩; obtain ⟨A8, c8, rfl⟩ := Kd.R_slice hR8; clear hR8 HCR4; have HB1 := Aside0.mk (below_then HB.out HB.out.size hb); have HX1 := Aside0.mk (blk_below HX.out hb); clear HB HX hb; have HB := HB1; have HX := HX1; clear HB1 HX1; (try clear hk0 hk1 hk2 hk3 hk4 hk5); obtain ⟨hk0, hk1, hk2, hk3, hk4, hk5⟩ := box6 HX.out))
  go_ret
  exact ⟨by first | rfl | simp, HB.out⟩

set_option maxHeartbeats 4000000 in
set_option maxRecDepth 100000 in
theorem is16 (K : Nat) (a0 a1 a2 a3 a4 a5 : Int) (ix s1 : Nat) (A1 : Option Addr) (c1 : Nat) (b1 : List (List Int)) (A4 : Option Addr) (c4 : Nat) (b4 : List Int) (A5 : Option Addr) (c5 : Nat) (b5 : List (List Int)) (A6 : Option Addr) (c6 : Nat) (b6 : List Int) (A7 : Option Addr) (c7 : Nat) (b7 : List (List Int)) (w : World) (h1 : CL w A1 b1) (e1 : b1.length ≤ c1) (h4 : CB w A4 b4) (e4 : b4.length ≤ c4) (h5 : CL w A5 b5) (e5 : b5.length ≤ c5) (h6 : CB w A6 b6) (e6 : b6.length ≤ c6) (h7 : CL w A7 b7) (e7 : b7.length ≤ c7) (z1 : laws_zzFits2.f K b1 = some true) (t4 : decide (2147483647 < (b4.length : Int)) = false) (z5 : laws_zzFits2.f K b5 = some true) (t6 : decide (2147483647 < (b6.length : Int)) = false) (z7 : laws_zzFits2.f K b7 = some true) (hml : b1.length ≤ 2147483647) (tt : spec_Terms.f a0 a1 a2 a3 a4 a5 = some true) (p1 : laws_logSmall.f K b1 = some true) (p5 : laws_logSmall.f K b5 = some true) (p7 : laws_logSmall.f K b7 = some true) (u6 : decide (100000 < (b6.length : Int)) = false) (u4 : decide (5000 < (b4.length : Int)) = false) (v1 : decide (b1.length < s1) = false) (v1i : decide ((b1.length : Int) < (s1 : Int)) = false) (v2 : decide (s1 ≤ ix) = false) (v2i : decide ((s1 : Int) ≤ (ix : Int)) = false) (hix : ix < b1.length) (r : List Int) (hrl : r.length ≤ 140737488351232) (kr : Nat) (rt : spec_Root.f kr a0 a1 a2 a3 a4 a5 b1 = some r) (st : spec_SameText.f r r = some true) (tr : ∀ W : World, Below w.heap.size w W → Calls Tryd.prog 36 #[.agg #[.int .i64 a0, .int .i64 a1, .int .i64 a2, .int .u64 a3, .int .u64 a4, .int .u64 a5], .slice A1 b1.length c1, .int .u64 (b1.length : Int)] W fun en w' => ∃ Ar cr, en = .returned (.tuple #[.slice Ar r.length cr, .bool true]) ∧ r.length ≤ cr ∧ CB w' Ar r ∧ Below W.heap.size W w') (n1 n2 : Int) (q1 q2 : List Int) (vi : ∀ W : World, Below w.heap.size w W → Calls Tryd.prog 38 #[.agg #[.int .i64 a0, .int .i64 a1, .int .i64 a2, .int .u64 a3, .int .u64 a4, .int .u64 a5], .int .u64 (ix : Int), .int .u64 (s1 : Int), .slice A4 b4.length c4, .slice A5 b5.length c5, .slice A6 b6.length c6] W fun e w' => ∃ v2, e = .returned (.tuple #[.int .i64 n1, v2]) ∧ Kd.R (Kd.int .u8) 5 w' W.heap.size (fun _ => True) v2 q1 ∧ Below W.heap.size W w') (vc : ∀ (W : World) (A : Option Addr) (c : Nat), Below w.heap.size w W → CB W A r → r.length ≤ c → Calls Tryd.prog 23 #[.agg #[.int .i64 a0, .int .i64 a1, .int .i64 a2, .int .u64 a3, .int .u64 a4, .int .u64 a5], .int .u64 (s1 : Int), .int .u64 (b1.length : Int), .slice A7 b7.length c7, .slice A6 b6.length c6, .slice A r.length c] W fun e w' => ∃ v2, e = .returned (.tuple #[.int .i64 n2, v2]) ∧ Kd.R (Kd.int .u8) 5 w' W.heap.size (fun _ => True) v2 q2 ∧ Below W.heap.size W w') (g1 : (n1 != 0) = false) (g2 : (n2 != 0) = false) (st2 : spec_SameText.f b4 (b1.getD ix []) = some true) :
    Calls Tryd.prog 10 #[.agg #[.int .i64 a0, .int .i64 a1, .int .i64 a2, .int .u64 a3, .int .u64 a4, .int .u64 a5], .slice A1 b1.length c1, .int .u64 (ix : Int), .int .u64 (s1 : Int), .slice A4 b4.length c4, .slice A5 b5.length c5, .slice A6 b6.length c6, .slice A7 b7.length c7] w fun en w' => en = .returned (.bool true) ∧ Below w.heap.size w w' := by
  have h1_ := Aside0.mk h1
  have h4_ := Aside0.mk h4
  have h5_ := Aside0.mk h5
  have h6_ := Aside0.mk h6
  have h7_ := Aside0.mk h7
  clear h1 h4 h5 h6 h7
  have _u := And.intro e1 (And.intro e4 (And.intro e5 (And.intro e6 (And.intro e7 (Eq.refl K)))))
  clear _u
  have HB : Aside0 (Below w.heap.size w (w.alloc (.cells #[.int .i64 a0, .int .i64 a1, .int .i64 a2, .int .u64 a3, .int .u64 a4, .int .u64 a5] 24))) := ⟨below_alloc (Below.refl _ _) _⟩
  have HX : Aside0 ((w.alloc (.cells #[.int .i64 a0, .int .i64 a1, .int .i64 a2, .int .u64 a3, .int .u64 a4, .int .u64 a5] 24)).heap[w.heap.size]? = some (.cells #[.int .i64 a0, .int .i64 a1, .int .i64 a2, .int .u64 a3, .int .u64 a4, .int .u64 a5] 24 (0, 0))) := ⟨heap_alloc_new w (.cells #[.int .i64 a0, .int .i64 a1, .int .i64 a2, .int .u64 a3, .int .u64 a4, .int .u64 a5] 24)⟩
  have _v := And.intro v1i (And.intro v2i (Eq.refl K))
  clear _v
  have Z1 := Aside0.mk z1
  clear z1
  have Z5 := Aside0.mk z5
  clear z5
  have Z7 := Aside0.mk z7
  clear z7
  have TT := Aside0.mk tt
  clear tt
  have P1 := Aside0.mk p1
  clear p1
  have P5 := Aside0.mk p5
  clear p5
  have P7 := Aside0.mk p7
  clear p7
  have RT := Aside0.mk rt
  clear rt
  have ST := Aside0.mk st
  clear st
  have TR := Aside0.mk tr
  clear tr
  have VI := Aside0.mk vi
  clear vi
  have VC := Aside0.mk vc
  clear vc
  have HRL := Aside0.mk hrl
  clear hrl
  have ML := Aside0.mk hml
  clear hml
  have hw : ∀ z : Int, z = (b1.length : Int) → IntKind.u64.wrap z = (b1.length : Int) := fun z hz => by
    rw [hz]
    show (b1.length : Int) % 18446744073709551616 = _
    have := ML.out
    omega
  go_enter Tryd.func10, Tryd.ntmps10
  go_wp2_with fail
  go_wp2_with (first
    | (go_at_call 13; (with_reducible refine (laws_zzFits2.calls K A1 c1 b1 _ _ (Kd.C_below h1_.out HB.out) e1 Z1.out).mono ?_); rintro en wz1 ⟨rfl, hd⟩; (first | have hb := hd.below | have hb := hd); clear hd; have HB1 := Aside0.mk (below_then HB.out HB.out.size hb); have HX1 := Aside0.mk (blk_below HX.out hb); clear HB HX hb; have HB := HB1; have HX := HX1; clear HB1 HX1; (try clear hk0 hk1 hk2 hk3 hk4 hk5); obtain ⟨hk0, hk1, hk2, hk3, hk4, hk5⟩ := box6 HX.out)
    | (go_at_call 13; (with_reducible refine (laws_zzFits2.calls K A5 c5 b5 _ _ (Kd.C_below h5_.out HB.out) e5 Z5.out).mono ?_); rintro en wz5 ⟨rfl, hd⟩; (first | have hb := hd.below | have hb := hd); clear hd; have HB1 := Aside0.mk (below_then HB.out HB.out.size hb); have HX1 := Aside0.mk (blk_below HX.out hb); clear HB HX hb; have HB := HB1; have HX := HX1; clear HB1 HX1; (try clear hk0 hk1 hk2 hk3 hk4 hk5); obtain ⟨hk0, hk1, hk2, hk3, hk4, hk5⟩ := box6 HX.out)
    | (go_at_call 13; (with_reducible refine (laws_zzFits2.calls K A7 c7 b7 _ _ (Kd.C_below h7_.out HB.out) e7 Z7.out).mono ?_); rintro en wz7 ⟨rfl, hd⟩; (first | have hb := hd.below | have hb := hd); clear hd; have HB1 := Aside0.mk (below_then HB.out HB.out.size hb); have HX1 := Aside0.mk (blk_below HX.out hb); clear HB HX hb; have HB := HB1; have HX := HX1; clear HB1 HX1; (try clear hk0 hk1 hk2 hk3 hk4 hk5); obtain ⟨hk0, hk1, hk2, hk3, hk4, hk5⟩ := box6 HX.out)
    | (go_at_call 14; (with_reducible refine (spec_Terms.calls a0 a1 a2 a3 a4 a5 _ _ TT.out).mono ?_); rintro en wt ⟨rfl, hd⟩; (first | have hb := hd.below | have hb := hd); clear hd; have HB1 := Aside0.mk (below_then HB.out HB.out.size hb); have HX1 := Aside0.mk (blk_below HX.out hb); clear HB HX hb; have HB := HB1; have HX := HX1; clear HB1 HX1; (try clear hk0 hk1 hk2 hk3 hk4 hk5); obtain ⟨hk0, hk1, hk2, hk3, hk4, hk5⟩ := box6 HX.out)
    | (go_at_call 15; (with_reducible refine (laws_logSmall.calls K A1 c1 b1 _ _ (Kd.C_below h1_.out HB.out) e1 P1.out).mono ?_); rintro en wp1 ⟨rfl, hd⟩; (first | have hb := hd.below | have hb := hd); clear hd; have HB1 := Aside0.mk (below_then HB.out HB.out.size hb); have HX1 := Aside0.mk (blk_below HX.out hb); clear HB HX hb; have HB := HB1; have HX := HX1; clear HB1 HX1; (try clear hk0 hk1 hk2 hk3 hk4 hk5); obtain ⟨hk0, hk1, hk2, hk3, hk4, hk5⟩ := box6 HX.out)
    | (go_at_call 15; (with_reducible refine (laws_logSmall.calls K A5 c5 b5 _ _ (Kd.C_below h5_.out HB.out) e5 P5.out).mono ?_); rintro en wp5 ⟨rfl, hd⟩; (first | have hb := hd.below | have hb := hd); clear hd; have HB1 := Aside0.mk (below_then HB.out HB.out.size hb); have HX1 := Aside0.mk (blk_below HX.out hb); clear HB HX hb; have HB := HB1; have HX := HX1; clear HB1 HX1; (try clear hk0 hk1 hk2 hk3 hk4 hk5); obtain ⟨hk0, hk1, hk2, hk3, hk4, hk5⟩ := box6 HX.out)
    | (go_at_call 15; (with_reducible refine (laws_logSmall.calls K A7 c7 b7 _ _ (Kd.C_below h7_.out HB.out) e7 P7.out).mono ?_); rintro en wp7 ⟨rfl, hd⟩; (first | have hb := hd.below | have hb := hd); clear hd; have HB1 := Aside0.mk (below_then HB.out HB.out.size hb); have HX1 := Aside0.mk (blk_below HX.out hb); clear HB HX hb; have HB := HB1; have HX := HX1; clear HB1 HX1; (try clear hk0 hk1 hk2 hk3 hk4 hk5); obtain ⟨hk0, hk1, hk2, hk3, hk4, hk5⟩ := box6 HX.out))
  go_wp2_with (first
    | (go_at_call 36; (with_reducible refine (TR.out _ HB.out).mono ?_); rintro en wr ⟨Ar, cr, rfl, hlr, hCr, hb⟩; have HLR := Aside0.mk hlr; have HCR := Aside0.mk hCr; clear hlr hCr; have HB1 := Aside0.mk (below_then HB.out HB.out.size hb); have HX1 := Aside0.mk (blk_below HX.out hb); clear HB HX hb; have HB := HB1; have HX := HX1; clear HB1 HX1; (try clear hk0 hk1 hk2 hk3 hk4 hk5); obtain ⟨hk0, hk1, hk2, hk3, hk4, hk5⟩ := box6 HX.out))
  go_wp2_with (first
    | (go_at_call 37; (with_reducible refine (root_arg (Kd.C_below h1_.out HB.out) e1 RT.out).mono ?_); rintro en wq ⟨Aq, cq, rfl, hlq, hCq, hb⟩; have HLQ := Aside0.mk hlq; have HCQ := Aside0.mk hCq; have HCR2 := Aside0.mk (Kd.C_below HCR.out hb); clear hlq hCq HCR; have HB1 := Aside0.mk (below_then HB.out HB.out.size hb); have HX1 := Aside0.mk (blk_below HX.out hb); clear HB HX hb; have HB := HB1; have HX := HX1; clear HB1 HX1; (try clear hk0 hk1 hk2 hk3 hk4 hk5); obtain ⟨hk0, hk1, hk2, hk3, hk4, hk5⟩ := box6 HX.out))
  go_wp2_with (first
    | (go_at_call 17; (with_reducible refine (spec_SameText.calls Ar cr r Aq cq r true _ HCR2.out HLR.out HCQ.out HLQ.out ST.out).mono ?_); rintro en ws ⟨rfl, hd⟩; (first | have hb := hd.below | have hb := hd); clear hd; have HCR3 := Aside0.mk (Kd.C_below HCR2.out hb); clear HCR2; have HB1 := Aside0.mk (below_then HB.out HB.out.size hb); have HX1 := Aside0.mk (blk_below HX.out hb); clear HB HX hb; have HB := HB1; have HX := HX1; clear HB1 HX1; (try clear hk0 hk1 hk2 hk3 hk4 hk5); obtain ⟨hk0, hk1, hk2, hk3, hk4, hk5⟩ := box6 HX.out))
  go_wp2_with (first
    | (go_at_call 38; (with_reducible refine (VI.out _ HB.out).mono ?_); rintro en wv ⟨v3, rfl, hR3, hb⟩; obtain ⟨A3, c3, rfl⟩ := Kd.R_slice hR3; have HCR4 := Aside0.mk (Kd.C_below HCR3.out hb); clear hR3 HCR3; have HB1 := Aside0.mk (below_then HB.out HB.out.size hb); have HX1 := Aside0.mk (blk_below HX.out hb); clear HB HX hb; have HB := HB1; have HX := HX1; clear HB1 HX1; (try clear hk0 hk1 hk2 hk3 hk4 hk5); obtain ⟨hk0, hk1, hk2, hk3, hk4, hk5⟩ := box6 HX.out))
  go_wp2_with (first
    | (go_at_call 23; (with_reducible refine (VC.out _ Ar cr HB.out HCR4.out HLR.out).mono ?_); rintro en wc ⟨v8, rfl, hR8, hb⟩; obtain ⟨A8, c8, rfl⟩ := Kd.R_slice hR8; clear hR8 HCR4; have HB1 := Aside0.mk (below_then HB.out HB.out.size hb); have HX1 := Aside0.mk (blk_below HX.out hb); clear HB HX hb; have HB := HB1; have HX := HX1; clear HB1 HX1; (try clear hk0 hk1 hk2 hk3 hk4 hk5); obtain ⟨hk0, hk1, hk2, hk3, hk4, hk5⟩ := box6 HX.out; have HIX2 := Aside0.mk hix; obtain ⟨ad, Ah, ch, ead, hx, hlh, hCh⟩ := at_L (Kd.C_below h1_.out HB.out) ix hix; subst ead; have hi0 : (0 : Int) ≤ (ix : Int) := (by omega); have hi1 : (ix : Int) < (b1.length : Int) := (by omega); have HLH := Aside0.mk hlh; have HCH := Aside0.mk hCh; have HS2 := Aside0.mk st2; clear hlh hCh st2; generalize b1.getD ix [] = leaf at hx HLH HCH HS2))
  go_wp2_with (first
    | (go_at_call 17; (with_reducible refine (spec_SameText.calls A4 c4 b4 Ah ch leaf true _ (Kd.C_below h4_.out HB.out) e4 HCH.out HLH.out HS2.out).mono ?_); rintro en we ⟨rfl, hd⟩; (first | have hb := hd.below | have hb := hd); clear hd; have HB1 := Aside0.mk (below_then HB.out HB.out.size hb); have HX1 := Aside0.mk (blk_below HX.out hb); clear HB HX hb; have HB := HB1; have HX := HX1; clear HB1 HX1; (try clear hk0 hk1 hk2 hk3 hk4 hk5); obtain ⟨hk0, hk1, hk2, hk3, hk4, hk5⟩ := box6 HX.out))
  go_ret
  exact ⟨by first | rfl | simp, HB.out⟩

end Go.Proofs.YtfhcpniibiobgaaDoor.Qf
