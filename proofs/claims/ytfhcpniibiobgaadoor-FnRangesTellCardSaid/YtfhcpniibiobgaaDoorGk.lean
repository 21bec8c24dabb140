/- The law FnRangesTell, walked (printed by gen_lawrt.py). -/
import Derived.Test.YtfhcpniibiobgaaDoorGj
namespace Go.Proofs.YtfhcpniibiobgaaDoor.Qf
open Go.RowKit Go.Proofs.YtfhcpniibiobgaaDoorW.PrintWords Go.Proofs.YtfhcpniibiobgaaDoorW.PrintLast Go.Proofs.YtfhcpniibiobgaaDoorW.PrintMore
open Hs (CB CL at_L at_B infoB infoL R_of_blk sameF)

theorem box6 {w : World} {g : Nat} {a0 a1 a2 a3 a4 a5 : Int} (h : w.heap[g]? = some (.cells #[.int .i64 a0, .int .i64 a1, .int .i64 a2, .int .u64 a3, .int .u64 a4, .int .u64 a5] 24 (0, 0))) : w.cell? ⟨g, 0, none⟩ = some (.int .i64 a0) ∧ w.cell? ⟨g, 1, none⟩ = some (.int .i64 a1) ∧ w.cell? ⟨g, 2, none⟩ = some (.int .i64 a2) ∧ w.cell? ⟨g, 3, none⟩ = some (.int .u64 a3) ∧ w.cell? ⟨g, 4, none⟩ = some (.int .u64 a4) ∧ w.cell? ⟨g, 5, none⟩ = some (.int .u64 a5) :=
  ⟨(blk_cell h 0).trans rfl, (blk_cell h 1).trans rfl, (blk_cell h 2).trans rfl, (blk_cell h 3).trans rfl, (blk_cell h 4).trans rfl, (blk_cell h 5).trans rfl⟩

set_option maxHeartbeats 2000000 in
set_option maxRecDepth 100000 in
theorem rt1 (K : Nat) (a0 a1 a2 a3 a4 a5 : Int) (b : Nat) (A : Option Addr) (c : Nat) (L : List (List Int)) (A2 : Option Addr) (c2 : Nat) (M : List (List Int)) (w : World) (hl : CL w A L) (hc : L.length ≤ c) (hm : CL w A2 M) (hc2 : M.length ≤ c2) (z1 : laws_zzFits2.f K L = some false) :
    Calls Tryd.prog 7 #[.agg #[.int .i64 a0, .int .i64 a1, .int .i64 a2, .int .u64 a3, .int .u64 a4, .int .u64 a5], .int .u64 (b : Nat), .slice A L.length c, .slice A2 M.length c2] w fun en w' => en = .returned (.bool true) ∧ Below w.heap.size w w' := by
  have hl_ := Aside0.mk hl
  have hm_ := Aside0.mk hm
  clear hl hm
  have HB : Aside0 (Below w.heap.size w (w.alloc (.cells #[.int .i64 a0, .int .i64 a1, .int .i64 a2, .int .u64 a3, .int .u64 a4, .int .u64 a5] 24))) := ⟨below_alloc (Below.refl _ _) _⟩
  have HX : Aside0 ((w.alloc (.cells #[.int .i64 a0, .int .i64 a1, .int .i64 a2, .int .u64 a3, .int .u64 a4, .int .u64 a5] 24)).heap[w.heap.size]? = some (.cells #[.int .i64 a0, .int .i64 a1, .int .i64 a2, .int .u64 a3, .int .u64 a4, .int .u64 a5] 24 (0, 0))) := ⟨heap_alloc_new w (.cells #[.int .i64 a0, .int .i64 a1, .int .i64 a2, .int .u64 a3, .int .u64 a4, .int .u64 a5] 24)⟩
  have _ := hc2
  have Z1 := Aside0.mk z1
  clear z1
  go_enter Tryd.func7, Tryd.ntmps7
  go_wp2_with fail
  go_wp2_with (first
    | (go_at_call 13; (with_reducible refine (laws_zzFits2.calls K A c L _ _ (Kd.C_below hl_.out HB.out) hc Z1.out).mono ?_); rintro en w1 ⟨rfl, hd⟩; (first | have hb := hd.below | have hb := hd); clear hd; have HB1 := Aside0.mk (below_then HB.out HB.out.size hb); have HX1 := Aside0.mk (blk_below HX.out hb); clear HB HX hb; have HB := HB1; have HX := HX1; clear HB1 HX1; (try clear hk0 hk1 hk2 hk3 hk4 hk5); obtain ⟨hk0, hk1, hk2, hk3, hk4, hk5⟩ := box6 HX.out))
  go_ret
  exact ⟨rfl, HB.out⟩

set_option maxHeartbeats 2000000 in
set_option maxRecDepth 100000 in
theorem rt2 (K : Nat) (a0 a1 a2 a3 a4 a5 : Int) (b : Nat) (A : Option Addr) (c : Nat) (L : List (List Int)) (A2 : Option Addr) (c2 : Nat) (M : List (List Int)) (w : World) (hl : CL w A L) (hc : L.length ≤ c) (hm : CL w A2 M) (hc2 : M.length ≤ c2) (z1 : laws_zzFits2.f K L = some true) (z2 : laws_zzFits2.f K M = some false) :
    Calls Tryd.prog 7 #[.agg #[.int .i64 a0, .int .i64 a1, .int .i64 a2, .int .u64 a3, .int .u64 a4, .int .u64 a5], .int .u64 (b : Nat), .slice A L.length c, .slice A2 M.length c2] w fun en w' => en = .returned (.bool true) ∧ Below w.heap.size w w' := by
  have hl_ := Aside0.mk hl
  have hm_ := Aside0.mk hm
  clear hl hm
  have HB : Aside0 (Below w.heap.size w (w.alloc (.cells #[.int .i64 a0, .int .i64 a1, .int .i64 a2, .int .u64 a3, .int .u64 a4, .int .u64 a5] 24))) := ⟨below_alloc (Below.refl _ _) _⟩
  have HX : Aside0 ((w.alloc (.cells #[.int .i64 a0, .int .i64 a1, .int .i64 a2, .int .u64 a3, .int .u64 a4, .int .u64 a5] 24)).heap[w.heap.size]? = some (.cells #[.int .i64 a0, .int .i64 a1, .int .i64 a2, .int .u64 a3, .int .u64 a4, .int .u64 a5] 24 (0, 0))) := ⟨heap_alloc_new w (.cells #[.int .i64 a0, .int .i64 a1, .int .i64 a2, .int .u64 a3, .int .u64 a4, .int .u64 a5] 24)⟩
  have Z1 := Aside0.mk z1
  clear z1
  have Z2 := Aside0.mk z2
  clear z2
  go_enter Tryd.func7, Tryd.ntmps7
  go_wp2_with fail
  go_wp2_with (first
    | (go_at_call 13; (with_reducible refine (laws_zzFits2.calls K A c L _ _ (Kd.C_below hl_.out HB.out) hc Z1.out).mono ?_); rintro en w1 ⟨rfl, hd⟩; (first | have hb := hd.below | have hb := hd); clear hd; have HB1 := Aside0.mk (below_then HB.out HB.out.size hb); have HX1 := Aside0.mk (blk_below HX.out hb); clear HB HX hb; have HB := HB1; have HX := HX1; clear HB1 HX1; (try clear hk0 hk1 hk2 hk3 hk4 hk5); obtain ⟨hk0, hk1, hk2, hk3, hk4, hk5⟩ := box6 HX.out)
    | (go_at_call 13; (with_reducible refine (laws_zzFits2.calls K A2 c2 M _ _ (Kd.C_below hm_.out HB.out) hc2 Z2.out).mono ?_); rintro en w2 ⟨rfl, hd⟩; (first | have hb := hd.below | have hb := hd); clear hd; have HB1 := Aside0.mk (below_then HB.out HB.out.size hb); have HX1 := Aside0.mk (blk_below HX.out hb); clear HB HX hb; have HB := HB1; have HX := HX1; clear HB1 HX1; (try clear hk0 hk1 hk2 hk3 hk4 hk5); obtain ⟨hk0, hk1, hk2, hk3, hk4, hk5⟩ := box6 HX.out))
  go_ret
  exact ⟨rfl, HB.out⟩

set_option maxHeartbeats 2000000 in
set_option maxRecDepth 100000 in
theorem rt3 (K : Nat) (a0 a1 a2 a3 a4 a5 : Int) (b : Nat) (A : Option Addr) (c : Nat) (L : List (List Int)) (A2 : Option Addr) (c2 : Nat) (M : List (List Int)) (w : World) (hl : CL w A L) (hc : L.length ≤ c) (hm : CL w A2 M) (hc2 : M.length ≤ c2) (z1 : laws_zzFits2.f K L = some true) (z2 : laws_zzFits2.f K M = some true) (tt : spec_Terms.f a0 a1 a2 a3 a4 a5 = some false) :
    Calls Tryd.prog 7 #[.agg #[.int .i64 a0, .int .i64 a1, .int .i64 a2, .int .u64 a3, .int .u64 a4, .int .u64 a5], .int .u64 (b : Nat), .slice A L.length c, .slice A2 M.length c2] w fun en w' => en = .returned (.bool true) ∧ Below w.heap.size w w' := by
  have hl_ := Aside0.mk hl
  have hm_ := Aside0.mk hm
  clear hl hm
  have HB : Aside0 (Below w.heap.size w (w.alloc (.cells #[.int .i64 a0, .int .i64 a1, .int .i64 a2, .int .u64 a3, .int .u64 a4, .int .u64 a5] 24))) := ⟨below_alloc (Below.refl _ _) _⟩
  have HX : Aside0 ((w.alloc (.cells #[.int .i64 a0, .int .i64 a1, .int .i64 a2, .int .u64 a3, .int .u64 a4, .int .u64 a5] 24)).heap[w.heap.size]? = some (.cells #[.int .i64 a0, .int .i64 a1, .int .i64 a2, .int .u64 a3, .int .u64 a4, .int .u64 a5] 24 (0, 0))) := ⟨heap_alloc_new w (.cells #[.int .i64 a0, .int .i64 a1, .int .i64 a2, .int .u64 a3, .int .u64 a4, .int .u64 a5] 24)⟩
  have Z1 := Aside0.mk z1
  clear z1
  have Z2 := Aside0.mk z2
  clear z2
  have TT := Aside0.mk tt
  clear tt
  go_enter Tryd.func7, Tryd.ntmps7
  go_wp2_with fail
  go_wp2_with (first
    | (go_at_call 13; (with_reducible refine (laws_zzFits2.calls K A c L _ _ (Kd.C_below hl_.out HB.out) hc Z1.out).mono ?_); rintro en w1 ⟨rfl, hd⟩; (first | have hb := hd.below | have hb := hd); clear hd; have HB1 := Aside0.mk (below_then HB.out HB.out.size hb); have HX1 := Aside0.mk (blk_below HX.out hb); clear HB HX hb; have HB := HB1; have HX := HX1; clear HB1 HX1; (try clear hk0 hk1 hk2 hk3 hk4 hk5); obtain ⟨hk0, hk1, hk2, hk3, hk4, hk5⟩ := box6 HX.out)
    | (go_at_call 13; (with_reducible refine (laws_zzFits2.calls K A2 c2 M _ _ (Kd.C_below hm_.out HB.out) hc2 Z2.out).mono ?_); rintro en w2 ⟨rfl, hd⟩; (first | have hb := hd.below | have hb := hd); clear hd; have HB1 := Aside0.mk (below_then HB.out HB.out.size hb); have HX1 := Aside0.mk (blk_below HX.out hb); clear HB HX hb; have HB := HB1; have HX := HX1; clear HB1 HX1; (try clear hk0 hk1 hk2 hk3 hk4 hk5); obtain ⟨hk0, hk1, hk2, hk3, hk4, hk5⟩ := box6 HX.out)
    | (go_at_call 14; (with_reducible refine (spec_Terms.calls a0 a1 a2 a3 a4 a5 _ _ TT.out).mono ?_); rintro en w3 ⟨rfl, hd⟩; (first | have hb := hd.below | have hb := hd); clear hd; have HB1 := Aside0.mk (below_then HB.out HB.out.size hb); have HX1 := Aside0.mk (blk_below HX.out hb); clear HB HX hb; have HB := HB1; have HX := HX1; clear HB1 HX1; (try clear hk0 hk1 hk2 hk3 hk4 hk5); obtain ⟨hk0, hk1, hk2, hk3, hk4, hk5⟩ := box6 HX.out))
  go_ret
  exact ⟨rfl, HB.out⟩

set_option maxHeartbeats 2000000 in
set_option maxRecDepth 100000 in
theorem rt4 (K : Nat) (a0 a1 a2 a3 a4 a5 : Int) (b : Nat) (A : Option Addr) (c : Nat) (L : List (List Int)) (A2 : Option Addr) (c2 : Nat) (M : List (List Int)) (w : World) (hl : CL w A L) (hc : L.length ≤ c) (hm : CL w A2 M) (hc2 : M.length ≤ c2) (z1 : laws_zzFits2.f K L = some true) (z2 : laws_zzFits2.f K M = some true) (tt : spec_Terms.f a0 a1 a2 a3 a4 a5 = some true) (hlm : L.length ≠ M.length) :
    Calls Tryd.prog 7 #[.agg #[.int .i64 a0, .int .i64 a1, .int .i64 a2, .int .u64 a3, .int .u64 a4, .int .u64 a5], .int .u64 (b : Nat), .slice A L.length c, .slice A2 M.length c2] w fun en w' => en = .returned (.bool true) ∧ Below w.heap.size w w' := by
  have hl_ := Aside0.mk hl
  have hm_ := Aside0.mk hm
  clear hl hm
  have HB : Aside0 (Below w.heap.size w (w.alloc (.cells #[.int .i64 a0, .int .i64 a1, .int .i64 a2, .int .u64 a3, .int .u64 a4, .int .u64 a5] 24))) := ⟨below_alloc (Below.refl _ _) _⟩
  have HX : Aside0 ((w.alloc (.cells #[.int .i64 a0, .int .i64 a1, .int .i64 a2, .int .u64 a3, .int .u64 a4, .int .u64 a5] 24)).heap[w.heap.size]? = some (.cells #[.int .i64 a0, .int .i64 a1, .int .i64 a2, .int .u64 a3, .int .u64 a4, .int .u64 a5] 24 (0, 0))) := ⟨heap_alloc_new w (.cells #[.int .i64 a0, .int .i64 a1, .int .i64 a2, .int .u64 a3, .int .u64 a4, .int .u64 a5] 24)⟩
  have Z1 := Aside0.mk z1
  clear z1
  have Z2 := Aside0.mk z2
  clear z2
  have TT := Aside0.mk tt
  clear tt
  have t1 : ((L.length : Int) != (M.length : Int)) = true := bne_iff_ne.2 (by omega)
  have t1n : (L.length != M.length) = true := bne_iff_ne.2 (by omega)
  clear hlm
  go_enter Tryd.func7, Tryd.ntmps7
  go_wp2_with fail
  go_wp2_with (first
    | (go_at_call 13; (with_reducible refine (laws_zzFits2.calls K A c L _ _ (Kd.C_below hl_.out HB.out) hc Z1.out).mono ?_); rintro en w1 ⟨rfl, hd⟩; (first | have hb := hd.below | have hb := hd); clear hd; have HB1 := Aside0.mk (below_then HB.out HB.out.size hb); have HX1 := Aside0.mk (blk_below HX.out hb); clear HB HX hb; have HB := HB1; have HX := HX1; clear HB1 HX1; (try clear hk0 hk1 hk2 hk3 hk4 hk5); obtain ⟨hk0, hk1, hk2, hk3, hk4, hk5⟩ := box6 HX.out)
    | (go_at_call 13; (with_reducible refine (laws_zzFits2.calls K A2 c2 M _ _ (Kd.C_below hm_.out HB.out) hc2 Z2.out).mono ?_); rintro en w2 ⟨rfl, hd⟩; (first | have hb := hd.below | have hb := hd); clear hd; have HB1 := Aside0.mk (below_then HB.out HB.out.size hb); have HX1 := Aside0.mk (blk_below HX.out hb); clear HB HX hb; have HB := HB1; have HX := HX1; clear HB1 HX1; (try clear hk0 hk1 hk2 hk3 hk4 hk5); obtain ⟨hk0, hk1, hk2, hk3, hk4, hk5⟩ := box6 HX.out)
    | (go_at_call 14; (with_reducible refine (spec_Terms.calls a0 a1 a2 a3 a4 a5 _ _ TT.out).mono ?_); rintro en w3 ⟨rfl, hd⟩; (first | have hb := hd.below | have hb := hd); clear hd; have HB1 := Aside0.mk (below_then HB.out HB.out.size hb); have HX1 := Aside0.mk (blk_below HX.out hb); clear HB HX hb; have HB := HB1; have HX := HX1; clear HB1 HX1; (try clear hk0 hk1 hk2 hk3 hk4 hk5); obtain ⟨hk0, hk1, hk2, hk3, hk4, hk5⟩ := box6 HX.out))
  go_ret
  exact ⟨rfl, HB.out⟩

set_option maxHeartbeats 2000000 in
set_option maxRecDepth 100000 in
theorem rt5 (K : Nat) (a0 a1 a2 a3 a4 a5 : Int) (b : Nat) (A : Option Addr) (c : Nat) (L : List (List Int)) (A2 : Option Addr) (c2 : Nat) (M : List (List Int)) (w : World) (hl : CL w A L) (hc : L.length ≤ c) (hm : CL w A2 M) (hc2 : M.length ≤ c2) (z1 : laws_zzFits2.f K L = some true) (z2 : laws_zzFits2.f K M = some true) (tt : spec_Terms.f a0 a1 a2 a3 a4 a5 = some true) (hlm : L.length = M.length) (rr : laws_rangeRoom.f K (b : Int) (b : Int) [] L = some false) :
    Calls Tryd.prog 7 #[.agg #[.int .i64 a0, .int .i64 a1, .int .i64 a2, .int .u64 a3, .int .u64 a4, .int .u64 a5], .int .u64 (b : Nat), .slice A L.length c, .slice A2 M.length c2] w fun en w' => en = .returned (.bool true) ∧ Below w.heap.size w w' := by
  have hl_ := Aside0.mk hl
  have hm_ := Aside0.mk hm
  clear hl hm
  have HB : Aside0 (Below w.heap.size w (w.alloc (.cells #[.int .i64 a0, .int .i64 a1, .int .i64 a2, .int .u64 a3, .int .u64 a4, .int .u64 a5] 24))) := ⟨below_alloc (Below.refl _ _) _⟩
  have HX : Aside0 ((w.alloc (.cells #[.int .i64 a0, .int .i64 a1, .int .i64 a2, .int .u64 a3, .int .u64 a4, .int .u64 a5] 24)).heap[w.heap.size]? = some (.cells #[.int .i64 a0, .int .i64 a1, .int .i64 a2, .int .u64 a3, .int .u64 a4, .int .u64 a5] 24 (0, 0))) := ⟨heap_alloc_new w (.cells #[.int .i64 a0, .int .i64 a1, .int .i64 a2, .int .u64 a3, .int .u64 a4, .int .u64 a5] 24)⟩
  have Z1 := Aside0.mk z1
  clear z1
  have Z2 := Aside0.mk z2
  clear z2
  have TT := Aside0.mk tt
  clear tt
  have RR := Aside0.mk rr
  clear rr
  have t1 : ((L.length : Int) != (M.length : Int)) = false := bne_eq_false_iff_eq.2 (by omega)
  have t1n : (L.length != M.length) = false := bne_eq_false_iff_eq.2 (by omega)
  have HLM := Aside0.mk hlm
  clear hlm
  go_enter Tryd.func7, Tryd.ntmps7
  go_wp2_with fail
  go_wp2_with (first
    | (go_at_call 13; (with_reducible refine (laws_zzFits2.calls K A c L _ _ (Kd.C_below hl_.out HB.out) hc Z1.out).mono ?_); rintro en w1 ⟨rfl, hd⟩; (first | have hb := hd.below | have hb := hd); clear hd; have HB1 := Aside0.mk (below_then HB.out HB.out.size hb); have HX1 := Aside0.mk (blk_below HX.out hb); clear HB HX hb; have HB := HB1; have HX := HX1; clear HB1 HX1; (try clear hk0 hk1 hk2 hk3 hk4 hk5); obtain ⟨hk0, hk1, hk2, hk3, hk4, hk5⟩ := box6 HX.out)
    | (go_at_call 13; (with_reducible refine (laws_zzFits2.calls K A2 c2 M _ _ (Kd.C_below hm_.out HB.out) hc2 Z2.out).mono ?_); rintro en w2 ⟨rfl, hd⟩; (first | have hb := hd.below | have hb := hd); clear hd; have HB1 := Aside0.mk (below_then HB.out HB.out.size hb); have HX1 := Aside0.mk (blk_below HX.out hb); clear HB HX hb; have HB := HB1; have HX := HX1; clear HB1 HX1; (try clear hk0 hk1 hk2 hk3 hk4 hk5); obtain ⟨hk0, hk1, hk2, hk3, hk4, hk5⟩ := box6 HX.out)
    | (go_at_call 14; (with_reducible refine (spec_Terms.calls a0 a1 a2 a3 a4 a5 _ _ TT.out).mono ?_); rintro en w3 ⟨rfl, hd⟩; (first | have hb := hd.below | have hb := hd); clear hd; have HB1 := Aside0.mk (below_then HB.out HB.out.size hb); have HX1 := Aside0.mk (blk_below HX.out hb); clear HB HX hb; have HB := HB1; have HX := HX1; clear HB1 HX1; (try clear hk0 hk1 hk2 hk3 hk4 hk5); obtain ⟨hk0, hk1, hk2, hk3, hk4, hk5⟩ := box6 HX.out)
    | (go_at_call 25; refine (laws_rangeRoom.calls K (b : Int) (b : Int) none 0 [] A c L _ _ (nil_C _) (Nat.le_refl _) (Kd.C_below hl_.out HB.out) hc RR.out).mono ?_; rintro en w4 ⟨rfl, hd⟩; (first | have hb := hd.below | have hb := hd); clear hd; have HB1 := Aside0.mk (below_then HB.out HB.out.size hb); have HX1 := Aside0.mk (blk_below HX.out hb); clear HB HX hb; have HB := HB1; have HX := HX1; clear HB1 HX1; (try clear hk0 hk1 hk2 hk3 hk4 hk5); obtain ⟨hk0, hk1, hk2, hk3, hk4, hk5⟩ := box6 HX.out))
  go_ret
  exact ⟨rfl, HB.out⟩

set_option maxHeartbeats 2000000 in
set_option maxRecDepth 100000 in
theorem rt6 (K : Nat) (a0 a1 a2 a3 a4 a5 : Int) (b : Nat) (A : Option Addr) (c : Nat) (L : List (List Int)) (A2 : Option Addr) (c2 : Nat) (M : List (List Int)) (w : World) (hl : CL w A L) (hc : L.length ≤ c) (hm : CL w A2 M) (hc2 : M.length ≤ c2) (z1 : laws_zzFits2.f K L = some true) (z2 : laws_zzFits2.f K M = some true) (tt : spec_Terms.f a0 a1 a2 a3 a4 a5 = some true) (hlm : L.length = M.length) (rr : laws_rangeRoom.f K (b : Int) (b : Int) [] L = some true) (sm : laws_logSmall.f K M = some false) :
    Calls Tryd.prog 7 #[.agg #[.int .i64 a0, .int .i64 a1, .int .i64 a2, .int .u64 a3, .int .u64 a4, .int .u64 a5], .int .u64 (b : Nat), .slice A L.length c, .slice A2 M.length c2] w fun en w' => en = .returned (.bool true) ∧ Below w.heap.size w w' := by
  have hl_ := Aside0.mk hl
  have hm_ := Aside0.mk hm
  clear hl hm
  have HB : Aside0 (Below w.heap.size w (w.alloc (.cells #[.int .i64 a0, .int .i64 a1, .int .i64 a2, .int .u64 a3, .int .u64 a4, .int .u64 a5] 24))) := ⟨below_alloc (Below.refl _ _) _⟩
  have HX : Aside0 ((w.alloc (.cells #[.int .i64 a0, .int .i64 a1, .int .i64 a2, .int .u64 a3, .int .u64 a4, .int .u64 a5] 24)).heap[w.heap.size]? = some (.cells #[.int .i64 a0, .int .i64 a1, .int .i64 a2, .int .u64 a3, .int .u64 a4, .int .u64 a5] 24 (0, 0))) := ⟨heap_alloc_new w (.cells #[.int .i64 a0, .int .i64 a1, .int .i64 a2, .int .u64 a3, .int .u64 a4, .int .u64 a5] 24)⟩
  have Z1 := Aside0.mk z1
  clear z1
  have Z2 := Aside0.mk z2
  clear z2
  have TT := Aside0.mk tt
  clear tt
  have RR := Aside0.mk rr
  clear rr
  have SM := Aside0.mk sm
  clear sm
  have t1 : ((L.length : Int) != (M.length : Int)) = false := bne_eq_false_iff_eq.2 (by omega)
  have t1n : (L.length != M.length) = false := bne_eq_false_iff_eq.2 (by omega)
  have HLM := Aside0.mk hlm
  clear hlm
  go_enter Tryd.func7, Tryd.ntmps7
  go_wp2_with fail
  go_wp2_with (first
    | (go_at_call 13; (with_reducible refine (laws_zzFits2.calls K A c L _ _ (Kd.C_below hl_.out HB.out) hc Z1.out).mono ?_); rintro en w1 ⟨rfl, hd⟩; (first | have hb := hd.below | have hb := hd); clear hd; have HB1 := Aside0.mk (below_then HB.out HB.out.size hb); have HX1 := Aside0.mk (blk_below HX.out hb); clear HB HX hb; have HB := HB1; have HX := HX1; clear HB1 HX1; (try clear hk0 hk1 hk2 hk3 hk4 hk5); obtain ⟨hk0, hk1, hk2, hk3, hk4, hk5⟩ := box6 HX.out)
    | (go_at_call 13; (with_reducible refine (laws_zzFits2.calls K A2 c2 M _ _ (Kd.C_below hm_.out HB.out) hc2 Z2.out).mono ?_); rintro en w2 ⟨rfl, hd⟩; (first | have hb := hd.below | have hb := hd); clear hd; have HB1 := Aside0.mk (below_then HB.out HB.out.size hb); have HX1 := Aside0.mk (blk_below HX.out hb); clear HB HX hb; have HB := HB1; have HX := HX1; clear HB1 HX1; (try clear hk0 hk1 hk2 hk3 hk4 hk5); obtain ⟨hk0, hk1, hk2, hk3, hk4, hk5⟩ := box6 HX.out)
    | (go_at_call 14; (with_reducible refine (spec_Terms.calls a0 a1 a2 a3 a4 a5 _ _ TT.out).mono ?_); rintro en w3 ⟨rfl, hd⟩; (first | have hb := hd.below | have hb := hd); clear hd; have HB1 := Aside0.mk (below_then HB.out HB.out.size hb); have HX1 := Aside0.mk (blk_below HX.out hb); clear HB HX hb; have HB := HB1; have HX := HX1; clear HB1 HX1; (try clear hk0 hk1 hk2 hk3 hk4 hk5); obtain ⟨hk0, hk1, hk2, hk3, hk4, hk5⟩ := box6 HX.out)
    | (go_at_call 25; refine (laws_rangeRoom.calls K (b : Int) (b : Int) none 0 [] A c L _ _ (nil_C _) (Nat.le_refl _) (Kd.C_below hl_.out HB.out) hc RR.out).mono ?_; rintro en w4 ⟨rfl, hd⟩; (first | have hb := hd.below | have hb := hd); clear hd; have HB1 := Aside0.mk (below_then HB.out HB.out.size hb); have HX1 := Aside0.mk (blk_below HX.out hb); clear HB HX hb; have HB := HB1; have HX := HX1; clear HB1 HX1; (try clear hk0 hk1 hk2 hk3 hk4 hk5); obtain ⟨hk0, hk1, hk2, hk3, hk4, hk5⟩ := box6 HX.out)
    | (go_at_call 15; (with_reducible refine (laws_logSmall.calls K A2 c2 M _ _ (Kd.C_below hm_.out HB.out) hc2 SM.out).mono ?_); rintro en w5 ⟨rfl, hd⟩; (first | have hb := hd.below | have hb := hd); clear hd; have HB1 := Aside0.mk (below_then HB.out HB.out.size hb); have HX1 := Aside0.mk (blk_below HX.out hb); clear HB HX hb; have HB := HB1; have HX := HX1; clear HB1 HX1; (try clear hk0 hk1 hk2 hk3 hk4 hk5); obtain ⟨hk0, hk1, hk2, hk3, hk4, hk5⟩ := box6 HX.out))
  go_ret
  exact ⟨rfl, HB.out⟩

set_option maxHeartbeats 4000000 in
set_option maxRecDepth 100000 in
theorem rt7 (K : Nat) (a0 a1 a2 a3 a4 a5 : Int) (b : Nat) (A : Option Addr) (c : Nat) (L : List (List Int)) (A2 : Option Addr) (c2 : Nat) (M : List (List Int)) (w : World) (hl : CL w A L) (hc : L.length ≤ c) (hm : CL w A2 M) (hc2 : M.length ≤ c2) (z1 : laws_zzFits2.f K L = some true) (z2 : laws_zzFits2.f K M = some true) (tt : spec_Terms.f a0 a1 a2 a3 a4 a5 = some true) (hlm : L.length = M.length) (rr : laws_rangeRoom.f K (b : Int) (b : Int) [] L = some true) (sm : laws_logSmall.f K M = some true) (HG_ : Glob w) (k : Nat) (lsL lsM : Nat → List (List Int)) (okL : ApOk a0 a1 a2 a3 a4 a5 b L lsL k) (okM : ApOk a0 a1 a2 a3 a4 a5 b M lsM k) (hsame : sameF (lsL L.length) (lsM M.length) = sameF L M) :
    Calls Tryd.prog 7 #[.agg #[.int .i64 a0, .int .i64 a1, .int .i64 a2, .int .u64 a3, .int .u64 a4, .int .u64 a5], .int .u64 (b : Nat), .slice A L.length c, .slice A2 M.length c2] w fun en w' => en = .returned (.bool true) ∧ Below w.heap.size w w' := by
  have hl_ := Aside0.mk hl
  have hm_ := Aside0.mk hm
  clear hl hm
  have HB : Aside0 (Below w.heap.size w (w.alloc (.cells #[.int .i64 a0, .int .i64 a1, .int .i64 a2, .int .u64 a3, .int .u64 a4, .int .u64 a5] 24))) := ⟨below_alloc (Below.refl _ _) _⟩
  have HX : Aside0 ((w.alloc (.cells #[.int .i64 a0, .int .i64 a1, .int .i64 a2, .int .u64 a3, .int .u64 a4, .int .u64 a5] 24)).heap[w.heap.size]? = some (.cells #[.int .i64 a0, .int .i64 a1, .int .i64 a2, .int .u64 a3, .int .u64 a4, .int .u64 a5] 24 (0, 0))) := ⟨heap_alloc_new w (.cells #[.int .i64 a0, .int .i64 a1, .int .i64 a2, .int .u64 a3, .int .u64 a4, .int .u64 a5] 24)⟩
  have Z1 := Aside0.mk z1
  clear z1
  have Z2 := Aside0.mk z2
  clear z2
  have TT := Aside0.mk tt
  clear tt
  have RR := Aside0.mk rr
  clear rr
  have SM := Aside0.mk sm
  clear sm
  obtain ⟨E, hE⟩ : ∃ E, b + L.length = E := ⟨_, rfl⟩
  have HE6 := Aside0.mk hE
  have HE7 : Aside0 (b + M.length = E) := ⟨by rw [← hlm]; exact hE⟩
  clear hE
  have t1 : ((L.length : Int) != (M.length : Int)) = false := bne_eq_false_iff_eq.2 (by omega)
  have t1n : (L.length != M.length) = false := bne_eq_false_iff_eq.2 (by omega)
  have HLM := Aside0.mk hlm
  clear hlm
  have HG := Aside0.mk HG_
  have OL := Aside0.mk okL
  have OM := Aside0.mk okM
  have SAME := Aside0.mk hsame
  clear HG_ okL okM hsame
  go_enter Tryd.func7, Tryd.ntmps7
  go_wp2_with fail
  go_wp2_with (first
    | (go_at_call 13; (with_reducible refine (laws_zzFits2.calls K A c L _ _ (Kd.C_below hl_.out HB.out) hc Z1.out).mono ?_); rintro en w1 ⟨rfl, hd⟩; (first | have hb := hd.below | have hb := hd); clear hd; have HB1 := Aside0.mk (below_then HB.out HB.out.size hb); have HX1 := Aside0.mk (blk_below HX.out hb); clear HB HX hb; have HB := HB1; have HX := HX1; clear HB1 HX1; (try clear hk0 hk1 hk2 hk3 hk4 hk5); obtain ⟨hk0, hk1, hk2, hk3, hk4, hk5⟩ := box6 HX.out)
    | (go_at_call 13; (with_reducible refine (laws_zzFits2.calls K A2 c2 M _ _ (Kd.C_below hm_.out HB.out) hc2 Z2.out).mono ?_); rintro en w2 ⟨rfl, hd⟩; (first | have hb := hd.below | have hb := hd); clear hd; have HB1 := Aside0.mk (below_then HB.out HB.out.size hb); have HX1 := Aside0.mk (blk_below HX.out hb); clear HB HX hb; have HB := HB1; have HX := HX1; clear HB1 HX1; (try clear hk0 hk1 hk2 hk3 hk4 hk5); obtain ⟨hk0, hk1, hk2, hk3, hk4, hk5⟩ := box6 HX.out)
    | (go_at_call 14; (with_reducible refine (spec_Terms.calls a0 a1 a2 a3 a4 a5 _ _ TT.out).mono ?_); rintro en w3 ⟨rfl, hd⟩; (first | have hb := hd.below | have hb := hd); clear hd; have HB1 := Aside0.mk (below_then HB.out HB.out.size hb); have HX1 := Aside0.mk (blk_below HX.out hb); clear HB HX hb; have HB := HB1; have HX := HX1; clear HB1 HX1; (try clear hk0 hk1 hk2 hk3 hk4 hk5); obtain ⟨hk0, hk1, hk2, hk3, hk4, hk5⟩ := box6 HX.out)
    | (go_at_call 25; refine (laws_rangeRoom.calls K (b : Int) (b : Int) none 0 [] A c L _ _ (nil_C _) (Nat.le_refl _) (Kd.C_below hl_.out HB.out) hc RR.out).mono ?_; rintro en w4 ⟨rfl, hd⟩; (first | have hb := hd.below | have hb := hd); clear hd; have HB1 := Aside0.mk (below_then HB.out HB.out.size hb); have HX1 := Aside0.mk (blk_below HX.out hb); clear HB HX hb; have HB := HB1; have HX := HX1; clear HB1 HX1; (try clear hk0 hk1 hk2 hk3 hk4 hk5); obtain ⟨hk0, hk1, hk2, hk3, hk4, hk5⟩ := box6 HX.out)
    | (go_at_call 15; (with_reducible refine (laws_logSmall.calls K A2 c2 M _ _ (Kd.C_below hm_.out HB.out) hc2 SM.out).mono ?_); rintro en w5 ⟨rfl, hd⟩; (first | have hb := hd.below | have hb := hd); clear hd; have HB1 := Aside0.mk (below_then HB.out HB.out.size hb); have HX1 := Aside0.mk (blk_below HX.out hb); clear HB HX hb; have HB := HB1; have HX := HX1; clear HB1 HX1; (try clear hk0 hk1 hk2 hk3 hk4 hk5); obtain ⟨hk0, hk1, hk2, hk3, hk4, hk5⟩ := box6 HX.out))
  go_wp2_with (first
    | (go_at_call 26; (with_reducible refine (append_new OL.out E HE6.out A c _ hc (Kd.C_below hl_.out HB.out) (Glob.below HG.out HB.out)).mono ?_); rintro en w6 ⟨A6, d6, vs6, rfl, hd, hC, hb⟩; have HD6 := Aside0.mk hd; have HC6 := Aside0.mk hC; clear hd hC; have HB1 := Aside0.mk (below_then HB.out HB.out.size hb); have HX1 := Aside0.mk (blk_below HX.out hb); clear HB HX hb; have HB := HB1; have HX := HX1; clear HB1 HX1; (try clear hk0 hk1 hk2 hk3 hk4 hk5); obtain ⟨hk0, hk1, hk2, hk3, hk4, hk5⟩ := box6 HX.out; have hlt6 : w.heap.size < w6.heap.size := lt_of_block HX.out))
  have hS3 : (w6.alloc (.cells #[.int .u64 (b : Nat), .int .u64 (E : Int), (.slice A6 (lsL L.length).length d6)] 35)).heap[w6.heap.size]? = some (.cells #[.int .u64 (b : Nat), .int .u64 (E : Int), (.slice A6 (lsL L.length).length d6)] 35 (0, 0)) := heap_alloc_new _ _
  have hB3 : Below w6.heap.size w6 (w6.alloc (.cells #[.int .u64 (b : Nat), .int .u64 (E : Int), (.slice A6 (lsL L.length).length d6)] 35)) := below_alloc (Below.refl _ _) _
  generalize (w6.alloc (.cells #[.int .u64 (b : Nat), .int .u64 (E : Int), (.slice A6 (lsL L.length).length d6)] 35)) = w7 at hS3 hB3 ⊢
  have C6 := Aside0.mk (Kd.C_below HC6.out hB3)
  have G6 : Aside0 (w7.heap[w6.heap.size]? = some (.cells #[.int .u64 (b : Nat), .int .u64 (E : Int), (.slice A6 (lsL L.length).length d6)] 35 (0, 0))) := ⟨hS3⟩
  clear hS3 HC6
  have hb := hB3
  clear hB3
  have HB1 := Aside0.mk (below_then HB.out HB.out.size hb)
  have HX1 := Aside0.mk (blk_below HX.out hb)
  clear HB HX hb
  have HB := HB1
  have HX := HX1
  clear HB1 HX1
  (try clear hk0 hk1 hk2 hk3 hk4 hk5)
  obtain ⟨hk0, hk1, hk2, hk3, hk4, hk5⟩ := box6 HX.out
  go_wp2_with (first
    | (go_at_call 26; (with_reducible refine (append_new OM.out E HE7.out A2 c2 _ hc2 (Kd.C_below hm_.out HB.out) (Glob.below HG.out HB.out)).mono ?_); rintro en w8 ⟨A7, d7, vs7, rfl, hd, hC, hb⟩; have HB78 := Aside0.mk hb; have HD7 := Aside0.mk hd; have HC7 := Aside0.mk hC; clear hd hC; have HB1 := Aside0.mk (below_then HB.out HB.out.size hb); have HX1 := Aside0.mk (blk_below HX.out hb); clear HB HX hb; have HB := HB1; have HX := HX1; clear HB1 HX1; (try clear hk0 hk1 hk2 hk3 hk4 hk5); obtain ⟨hk0, hk1, hk2, hk3, hk4, hk5⟩ := box6 HX.out; have hlt7 : w.heap.size < w8.heap.size := lt_of_block HX.out; have G68 := Aside0.mk (blk_below G6.out HB78.out); have hlt68 : w6.heap.size < w8.heap.size := lt_of_block G68.out; have y0 : w8.cell? ⟨w6.heap.size, 0, none⟩ = some (.int .u64 (b : Nat)) := (blk_cell G68.out 0).trans rfl; have y1 : w8.cell? ⟨w6.heap.size, 1, none⟩ = some (.int .u64 (E : Int)) := (blk_cell G68.out 1).trans rfl; have y2 : w8.cell? ⟨w6.heap.size, 2, none⟩ = some ((.slice A6 (lsL L.length).length d6)) := (blk_cell G68.out 2).trans rfl))
  have hS3 : (w8.alloc (.cells #[.int .u64 (b : Nat), .int .u64 (E : Int), (.slice A7 (lsM M.length).length d7)] 35)).heap[w8.heap.size]? = some (.cells #[.int .u64 (b : Nat), .int .u64 (E : Int), (.slice A7 (lsM M.length).length d7)] 35 (0, 0)) := heap_alloc_new _ _
  have hB3 : Below w8.heap.size w8 (w8.alloc (.cells #[.int .u64 (b : Nat), .int .u64 (E : Int), (.slice A7 (lsM M.length).length d7)] 35)) := below_alloc (Below.refl _ _) _
  generalize (w8.alloc (.cells #[.int .u64 (b : Nat), .int .u64 (E : Int), (.slice A7 (lsM M.length).length d7)] 35)) = w9 at hS3 hB3 ⊢
  have hb := hB3
  clear hB3
  have C7 := Aside0.mk (Kd.C_below HC7.out hb)
  have G7 : Aside0 (w9.heap[w8.heap.size]? = some (.cells #[.int .u64 (b : Nat), .int .u64 (E : Int), (.slice A7 (lsM M.length).length d7)] 35 (0, 0))) := ⟨hS3⟩
  clear hS3 HC7
  have G6' := Aside0.mk (blk_below (blk_below G6.out HB78.out) hb)
  have C6' := Aside0.mk (Kd.C_below (Kd.C_below C6.out HB78.out) hb)
  have HB1 := Aside0.mk (below_then HB.out HB.out.size hb)
  have HX1 := Aside0.mk (blk_below HX.out hb)
  clear HB HX hb
  have HB := HB1
  have HX := HX1
  clear HB1 HX1
  (try clear hk0 hk1 hk2 hk3 hk4 hk5)
  obtain ⟨hk0, hk1, hk2, hk3, hk4, hk5⟩ := box6 HX.out
  have SZL := Aside0.mk OL.out.sze
  have SZM := Aside0.mk OM.out.sze
  rw [HE6.out] at SZL
  rw [HE7.out] at SZM
  go_wp2_with (first
    | (go_at_call 32; (with_reducible refine (equalRanges_calls b E A6 d6 (lsL L.length) A7 d7 (lsM M.length) k _ HD6.out HD7.out C6'.out C7.out OL.out.te OM.out.te (by have := HE6.out; omega) SZL.out SZM.out (by have := OL.out.hsl L.length (Nat.le_refl _); omega)).mono ?_); rintro en w10 ⟨rfl, hb⟩; have HB1 := Aside0.mk (below_then HB.out HB.out.size hb); have HX1 := Aside0.mk (blk_below HX.out hb); clear HB HX hb; have HB := HB1; have HX := HX1; clear HB1 HX1; (try clear hk0 hk1 hk2 hk3 hk4 hk5); obtain ⟨hk0, hk1, hk2, hk3, hk4, hk5⟩ := box6 HX.out)
    | (go_at_call 18; (with_reducible refine (Hs.same_calls A c L A2 c2 M (by have := OL.out.hMl; omega) _ (Kd.C_below hl_.out HB.out) (Kd.C_below hm_.out HB.out)).mono ?_); rintro en w11 ⟨rfl, hd⟩; have hb := hd.below; clear hd; have HB1 := Aside0.mk (below_then HB.out HB.out.size hb); have HX1 := Aside0.mk (blk_below HX.out hb); clear HB HX hb; have HB := HB1; have HX := HX1; clear HB1 HX1; (try clear hk0 hk1 hk2 hk3 hk4 hk5); obtain ⟨hk0, hk1, hk2, hk3, hk4, hk5⟩ := box6 HX.out))
  go_ret
  exact ⟨by rw [SAME.out]; simp, HB.out⟩
end Go.Proofs.YtfhcpniibiobgaaDoor.Qf
