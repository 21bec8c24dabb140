/- The law FnDataTell, walked (printed by gen_lawdt.py). -/
import Derived.Test.YtfhcpniibiobgaaDoorNi
namespace Go.Proofs.YtfhcpniibiobgaaDoor.Qf
open Go.RowKit Go.Proofs.YtfhcpniibiobgaaDoorW.PrintWords Go.Proofs.YtfhcpniibiobgaaDoorW.PrintLast Go.Proofs.YtfhcpniibiobgaaDoorW.PrintMore
open Hs (CB CL at_L at_B infoB infoL R_of_blk sameF sameF_ne)

theorem box6 {w : World} {g : Nat} {a0 a1 a2 a3 a4 a5 : Int} (h : w.heap[g]? = some (.cells #[.int .i64 a0, .int .i64 a1, .int .i64 a2, .int .u64 a3, .int .u64 a4, .int .u64 a5] 24 (0, 0))) : w.cell? ⟨g, 0, none⟩ = some (.int .i64 a0) ∧ w.cell? ⟨g, 1, none⟩ = some (.int .i64 a1) ∧ w.cell? ⟨g, 2, none⟩ = some (.int .i64 a2) ∧ w.cell? ⟨g, 3, none⟩ = some (.int .u64 a3) ∧ w.cell? ⟨g, 4, none⟩ = some (.int .u64 a4) ∧ w.cell? ⟨g, 5, none⟩ = some (.int .u64 a5) :=
  ⟨(blk_cell h 0).trans rfl, (blk_cell h 1).trans rfl, (blk_cell h 2).trans rfl, (blk_cell h 3).trans rfl, (blk_cell h 4).trans rfl, (blk_cell h 5).trans rfl⟩
/-- What the tree of entries M wants: its rows rs, its root r. -/
structure TdOk (a0 a1 a2 a3 a4 a5 : Int) (M : List (List Int)) (k : Nat) (hl : Nat → List Int) (rs : Nat → List (List (List Int))) (r : List Int) : Prop where
  tx : impl_texts.f k M = some M
  ml : M.length ≤ 300
  hh : ∀ j, j < M.length → impl_toy_HashLeaf.f a0 a1 a2 a3 a4 a5 (M.getD j []) = some (hl j)
  st : ∀ j, j < M.length → TStep a0 a1 a2 a3 a4 a5 j (rs j) (hl j) (rs (j + 1))
  r0 : rs 0 = []
  r1 : 0 < M.length → 0 < (rs M.length).length
  r2 : ((rs M.length).getD 0 []).length = M.length
  r3 : ∀ i, (((rs M.length).getD 0 []).getD i []).length ≤ 140737488351232
  ha : ∀ (w0 : World) (gt : Nat) (S : Nat → Prop) (w1 : World) (vh : Value) (rv : List RV), TSt (toyV a0 a1 a2 a3 a4 a5) w0 gt S w1 (M.length : Int) vh rv rv (rs M.length) → Glob w1 → Calls Tryd.prog 74 #[.pointer (some ⟨gt, 0, none⟩), .int .u64 (M.length : Int)] w1 fun en w' => ∃ A c, en = .returned (.slice A r.length c) ∧ r.length ≤ c ∧ CB w' A r ∧ Below w1.heap.size w1 w'
theorem tree_of {a0 a1 a2 a3 a4 a5 : Int} {M : List (List Int)} {k : Nat} {hl : Nat → List Int} {rs : Nat → List (List (List Int))} {r : List Int} (h : TdOk a0 a1 a2 a3 a4 a5 M k hl rs r) (A : Option Addr) (c : Nat) (w : World) (hM : CL w A M) (hc : M.length ≤ c) (HG_ : Glob w) :
    Calls Tryd.prog 16 #[.agg #[.int .i64 a0, .int .i64 a1, .int .i64 a2, .int .u64 a3, .int .u64 a4, .int .u64 a5], .slice A M.length c] w fun en w' => ∃ vl Ar cr, en = .returned (.tuple #[.int .u64 (M.length : Int), vl, .slice Ar r.length cr]) ∧ r.length ≤ cr ∧ CB w' Ar r ∧ Below w.heap.size w w' :=
  treeOfData_calls a0 a1 a2 a3 a4 a5 A c M w k hl rs r hM hc HG_ h.tx h.ml h.hh h.st h.r0 h.r1 h.r2 h.r3 h.ha

set_option maxHeartbeats 2000000 in
set_option maxRecDepth 100000 in
theorem dt1 (K : Nat) (a0 a1 a2 a3 a4 a5 : Int) (A : Option Addr) (c : Nat) (L : List (List Int)) (A2 : Option Addr) (c2 : Nat) (M : List (List Int)) (w : World) (hl : CL w A L) (hc : L.length ≤ c) (hm : CL w A2 M) (hc2 : M.length ≤ c2) (z1 : laws_zzFits2.f K L = some false) :
    Calls Tryd.prog 3 #[.agg #[.int .i64 a0, .int .i64 a1, .int .i64 a2, .int .u64 a3, .int .u64 a4, .int .u64 a5], .slice A L.length c, .slice A2 M.length c2] w fun en w' => en = .returned (.bool true) ∧ Below w.heap.size w w' := by
  have _ := hc2
  have hl_ := Aside0.mk hl
  have hm_ := Aside0.mk hm
  clear hl hm
  have HB : Aside0 (Below w.heap.size w (w.alloc (.cells #[.int .i64 a0, .int .i64 a1, .int .i64 a2, .int .u64 a3, .int .u64 a4, .int .u64 a5] 24))) := ⟨below_alloc (Below.refl _ _) _⟩
  have HX : Aside0 ((w.alloc (.cells #[.int .i64 a0, .int .i64 a1, .int .i64 a2, .int .u64 a3, .int .u64 a4, .int .u64 a5] 24)).heap[w.heap.size]? = some (.cells #[.int .i64 a0, .int .i64 a1, .int .i64 a2, .int .u64 a3, .int .u64 a4, .int .u64 a5] 24 (0, 0))) := ⟨heap_alloc_new w (.cells #[.int .i64 a0, .int .i64 a1, .int .i64 a2, .int .u64 a3, .int .u64 a4, .int .u64 a5] 24)⟩
  have Z1 := Aside0.mk z1
  clear z1
  go_enter Tryd.func3, Tryd.ntmps3
  go_wp2_with fail
  go_wp2_with (first
    | (go_at_call 13; (with_reducible refine (laws_zzFits2.calls K A c L _ _ (Kd.C_below hl_.out HB.out) hc Z1.out).mono ?_); rintro en w1 ⟨rfl, hd⟩; (first | have hb := hd.below | have hb := hd); clear hd; have HB1 := Aside0.mk (below_then HB.out HB.out.size hb); have HX1 := Aside0.mk (blk_below HX.out hb); clear HB HX hb; have HB := HB1; have HX := HX1; clear HB1 HX1; (try clear hk0 hk1 hk2 hk3 hk4 hk5); obtain ⟨hk0, hk1, hk2, hk3, hk4, hk5⟩ := box6 HX.out))
  go_ret
  exact ⟨rfl, HB.out⟩

set_option maxHeartbeats 2000000 in
set_option maxRecDepth 100000 in
theorem dt2 (K : Nat) (a0 a1 a2 a3 a4 a5 : Int) (A : Option Addr) (c : Nat) (L : List (List Int)) (A2 : Option Addr) (c2 : Nat) (M : List (List Int)) (w : World) (hl : CL w A L) (hc : L.length ≤ c) (hm : CL w A2 M) (hc2 : M.length ≤ c2) (z1 : laws_zzFits2.f K L = some true) (z2 : laws_zzFits2.f K M = some false) :
    Calls Tryd.prog 3 #[.agg #[.int .i64 a0, .int .i64 a1, .int .i64 a2, .int .u64 a3, .int .u64 a4, .int .u64 a5], .slice A L.length c, .slice A2 M.length c2] w fun en w' => en = .returned (.bool true) ∧ Below w.heap.size w w' := by
  have hl_ := Aside0.mk hl
  have hm_ := Aside0.mk hm
  clear hl hm
  have HB : Aside0 (Below w.heap.size w (w.alloc (.cells #[.int .i64 a0, .int .i64 a1, .int .i64 a2, .int .u64 a3, .int .u64 a4, .int .u64 a5] 24))) := ⟨below_alloc (Below.refl _ _) _⟩
  have HX : Aside0 ((w.alloc (.cells #[.int .i64 a0, .int .i64 a1, .int .i64 a2, .int .u64 a3, .int .u64 a4, .int .u64 a5] 24)).heap[w.heap.size]? = some (.cells #[.int .i64 a0, .int .i64 a1, .int .i64 a2, .int .u64 a3, .int .u64 a4, .int .u64 a5] 24 (0, 0))) := ⟨heap_alloc_new w (.cells #[.int .i64 a0, .int .i64 a1, .int .i64 a2, .int .u64 a3, .int .u64 a4, .int .u64 a5] 24)⟩
  have Z1 := Aside0.mk z1
  clear z1
  have Z2 := Aside0.mk z2
  clear z2
  go_enter Tryd.func3, Tryd.ntmps3
  go_wp2_with fail
  go_wp2_with (first
    | (go_at_call 13; (with_reducible refine (laws_zzFits2.calls K A c L _ _ (Kd.C_below hl_.out HB.out) hc Z1.out).mono ?_); rintro en w1 ⟨rfl, hd⟩; (first | have hb := hd.below | have hb := hd); clear hd; have HB1 := Aside0.mk (below_then HB.out HB.out.size hb); have HX1 := Aside0.mk (blk_below HX.out hb); clear HB HX hb; have HB := HB1; have HX := HX1; clear HB1 HX1; (try clear hk0 hk1 hk2 hk3 hk4 hk5); obtain ⟨hk0, hk1, hk2, hk3, hk4, hk5⟩ := box6 HX.out)
    | (go_at_call 13; (with_reducible refine (laws_zzFits2.calls K A2 c2 M _ _ (Kd.C_below hm_.out HB.out) hc2 Z2.out).mono ?_); rintro en w2 ⟨rfl, hd⟩; (first | have hb := hd.below | have hb := hd); clear hd; have HB1 := Aside0.mk (below_then HB.out HB.out.size hb); have HX1 := Aside0.mk (blk_below HX.out hb); clear HB HX hb; have HB := HB1; have HX := HX1; clear HB1 HX1; (try clear hk0 hk1 hk2 hk3 hk4 hk5); obtain ⟨hk0, hk1, hk2, hk3, hk4, hk5⟩ := box6 HX.out))
  go_ret
  exact ⟨rfl, HB.out⟩

set_option maxHeartbeats 2000000 in
set_option maxRecDepth 100000 in
theorem dt3 (K : Nat) (a0 a1 a2 a3 a4 a5 : Int) (A : Option Addr) (c : Nat) (L : List (List Int)) (A2 : Option Addr) (c2 : Nat) (M : List (List Int)) (w : World) (hl : CL w A L) (hc : L.length ≤ c) (hm : CL w A2 M) (hc2 : M.length ≤ c2) (z1 : laws_zzFits2.f K L = some true) (z2 : laws_zzFits2.f K M = some true) (tt : spec_Terms.f a0 a1 a2 a3 a4 a5 = some false) :
    Calls Tryd.prog 3 #[.agg #[.int .i64 a0, .int .i64 a1, .int .i64 a2, .int .u64 a3, .int .u64 a4, .int .u64 a5], .slice A L.length c, .slice A2 M.length c2] w fun en w' => en = .returned (.bool true) ∧ Below w.heap.size w w' := by
  have hl_ := Aside0.mk hl
  have hm_ := Aside0.mk hm
  clear hl hm
  have HB : Aside0 (Below w.heap.size w (w.alloc (.cells #[.int .i64 a0, .int .i64 a1, .int .i64 a2, .int .u64 a3, .int .u64 a4, .int .u64 a5] 24))) := ⟨below_alloc (Below.refl _ _) _⟩
  have HX : Aside0 ((w.alloc (.cells #[.int .i64 a0, .int .i64 a1, .int .i64 a2, .int .u64 a3, .int .u64 a4, .int .u64 a5] 24)).heap[w.heap.size]? = some (.cells #[.int .i64 a0, .int .i64 a1, .int .i64 a2, .int .u64 a3, .int .u64 a4, .int .u64 a5] 24 (0, 0))) := ⟨heap_alloc_new w (.cells #[.int .i64 a0, .int .i64 a1, .int .i64 a2, .int .u64 a3, .int .u64 a4, .int .u64 a5] 24)⟩
  have Z1 := Aside0.mk z1
  clear z1
  have Z2 := Aside0.mk z2
  clear z2
  have TT := Aside0.mk tt
  clear tt
  go_enter Tryd.func3, Tryd.ntmps3
  go_wp2_with fail
  go_wp2_with (first
    | (go_at_call 13; (with_reducible refine (laws_zzFits2.calls K A c L _ _ (Kd.C_below hl_.out HB.out) hc Z1.out).mono ?_); rintro en w1 ⟨rfl, hd⟩; (first | have hb := hd.below | have hb := hd); clear hd; have HB1 := Aside0.mk (below_then HB.out HB.out.size hb); have HX1 := Aside0.mk (blk_below HX.out hb); clear HB HX hb; have HB := HB1; have HX := HX1; clear HB1 HX1; (try clear hk0 hk1 hk2 hk3 hk4 hk5); obtain ⟨hk0, hk1, hk2, hk3, hk4, hk5⟩ := box6 HX.out)
    | (go_at_call 13; (with_reducible refine (laws_zzFits2.calls K A2 c2 M _ _ (Kd.C_below hm_.out HB.out) hc2 Z2.out).mono ?_); rintro en w2 ⟨rfl, hd⟩; (first | have hb := hd.below | have hb := hd); clear hd; have HB1 := Aside0.mk (below_then HB.out HB.out.size hb); have HX1 := Aside0.mk (blk_below HX.out hb); clear HB HX hb; have HB := HB1; have HX := HX1; clear HB1 HX1; (try clear hk0 hk1 hk2 hk3 hk4 hk5); obtain ⟨hk0, hk1, hk2, hk3, hk4, hk5⟩ := box6 HX.out)
    | (go_at_call 14; (with_reducible refine (spec_Terms.calls a0 a1 a2 a3 a4 a5 _ _ TT.out).mono ?_); rintro en w3 ⟨rfl, hd⟩; (first | have hb := hd.below | have hb := hd); clear hd; have HB1 := Aside0.mk (below_then HB.out HB.out.size hb); have HX1 := Aside0.mk (blk_below HX.out hb); clear HB HX hb; have HB := HB1; have HX := HX1; clear HB1 HX1; (try clear hk0 hk1 hk2 hk3 hk4 hk5); obtain ⟨hk0, hk1, hk2, hk3, hk4, hk5⟩ := box6 HX.out))
  go_ret
  exact ⟨rfl, HB.out⟩

set_option maxHeartbeats 2000000 in
set_option maxRecDepth 100000 in
theorem dt4 (K : Nat) (a0 a1 a2 a3 a4 a5 : Int) (A : Option Addr) (c : Nat) (L : List (List Int)) (A2 : Option Addr) (c2 : Nat) (M : List (List Int)) (w : World) (hl : CL w A L) (hc : L.length ≤ c) (hm : CL w A2 M) (hc2 : M.length ≤ c2) (z1 : laws_zzFits2.f K L = some true) (z2 : laws_zzFits2.f K M = some true) (tt : spec_Terms.f a0 a1 a2 a3 a4 a5 = some true) (s1 : laws_logSmall.f K L = some false) :
    Calls Tryd.prog 3 #[.agg #[.int .i64 a0, .int .i64 a1, .int .i64 a2, .int .u64 a3, .int .u64 a4, .int .u64 a5], .slice A L.length c, .slice A2 M.length c2] w fun en w' => en = .returned (.bool true) ∧ Below w.heap.size w w' := by
  have hl_ := Aside0.mk hl
  have hm_ := Aside0.mk hm
  clear hl hm
  have HB : Aside0 (Below w.heap.size w (w.alloc (.cells #[.int .i64 a0, .int .i64 a1, .int .i64 a2, .int .u64 a3, .int .u64 a4, .int .u64 a5] 24))) := ⟨below_alloc (Below.refl _ _) _⟩
  have HX : Aside0 ((w.alloc (.cells #[.int .i64 a0, .int .i64 a1, .int .i64 a2, .int .u64 a3, .int .u64 a4, .int .u64 a5] 24)).heap[w.heap.size]? = some (.cells #[.int .i64 a0, .int .i64 a1, .int .i64 a2, .int .u64 a3, .int .u64 a4, .int .u64 a5] 24 (0, 0))) := ⟨heap_alloc_new w (.cells #[.int .i64 a0, .int .i64 a1, .int .i64 a2, .int .u64 a3, .int .u64 a4, .int .u64 a5] 24)⟩
  have Z1 := Aside0.mk z1
  clear z1
  have Z2 := Aside0.mk z2
  clear z2
  have TT := Aside0.mk tt
  clear tt
  have S1 := Aside0.mk s1
  clear s1
  go_enter Tryd.func3, Tryd.ntmps3
  go_wp2_with fail
  go_wp2_with (first
    | (go_at_call 13; (with_reducible refine (laws_zzFits2.calls K A c L _ _ (Kd.C_below hl_.out HB.out) hc Z1.out).mono ?_); rintro en w1 ⟨rfl, hd⟩; (first | have hb := hd.below | have hb := hd); clear hd; have HB1 := Aside0.mk (below_then HB.out HB.out.size hb); have HX1 := Aside0.mk (blk_below HX.out hb); clear HB HX hb; have HB := HB1; have HX := HX1; clear HB1 HX1; (try clear hk0 hk1 hk2 hk3 hk4 hk5); obtain ⟨hk0, hk1, hk2, hk3, hk4, hk5⟩ := box6 HX.out)
    | (go_at_call 13; (with_reducible refine (laws_zzFits2.calls K A2 c2 M _ _ (Kd.C_below hm_.out HB.out) hc2 Z2.out).mono ?_); rintro en w2 ⟨rfl, hd⟩; (first | have hb := hd.below | have hb := hd); clear hd; have HB1 := Aside0.mk (below_then HB.out HB.out.size hb); have HX1 := Aside0.mk (blk_below HX.out hb); clear HB HX hb; have HB := HB1; have HX := HX1; clear HB1 HX1; (try clear hk0 hk1 hk2 hk3 hk4 hk5); obtain ⟨hk0, hk1, hk2, hk3, hk4, hk5⟩ := box6 HX.out)
    | (go_at_call 14; (with_reducible refine (spec_Terms.calls a0 a1 a2 a3 a4 a5 _ _ TT.out).mono ?_); rintro en w3 ⟨rfl, hd⟩; (first | have hb := hd.below | have hb := hd); clear hd; have HB1 := Aside0.mk (below_then HB.out HB.out.size hb); have HX1 := Aside0.mk (blk_below HX.out hb); clear HB HX hb; have HB := HB1; have HX := HX1; clear HB1 HX1; (try clear hk0 hk1 hk2 hk3 hk4 hk5); obtain ⟨hk0, hk1, hk2, hk3, hk4, hk5⟩ := box6 HX.out)
    | (go_at_call 15; (with_reducible refine (laws_logSmall.calls K A c L _ _ (Kd.C_below hl_.out HB.out) hc S1.out).mono ?_); rintro en w4 ⟨rfl, hd⟩; (first | have hb := hd.below | have hb := hd); clear hd; have HB1 := Aside0.mk (below_then HB.out HB.out.size hb); have HX1 := Aside0.mk (blk_below HX.out hb); clear HB HX hb; have HB := HB1; have HX := HX1; clear HB1 HX1; (try clear hk0 hk1 hk2 hk3 hk4 hk5); obtain ⟨hk0, hk1, hk2, hk3, hk4, hk5⟩ := box6 HX.out))
  go_ret
  exact ⟨rfl, HB.out⟩

set_option maxHeartbeats 2000000 in
set_option maxRecDepth 100000 in
theorem dt5 (K : Nat) (a0 a1 a2 a3 a4 a5 : Int) (A : Option Addr) (c : Nat) (L : List (List Int)) (A2 : Option Addr) (c2 : Nat) (M : List (List Int)) (w : World) (hl : CL w A L) (hc : L.length ≤ c) (hm : CL w A2 M) (hc2 : M.length ≤ c2) (z1 : laws_zzFits2.f K L = some true) (z2 : laws_zzFits2.f K M = some true) (tt : spec_Terms.f a0 a1 a2 a3 a4 a5 = some true) (s1 : laws_logSmall.f K L = some true) (s2 : laws_logSmall.f K M = some false) :
    Calls Tryd.prog 3 #[.agg #[.int .i64 a0, .int .i64 a1, .int .i64 a2, .int .u64 a3, .int .u64 a4, .int .u64 a5], .slice A L.length c, .slice A2 M.length c2] w fun en w' => en = .returned (.bool true) ∧ Below w.heap.size w w' := by
  have hl_ := Aside0.mk hl
  have hm_ := Aside0.mk hm
  clear hl hm
  have HB : Aside0 (Below w.heap.size w (w.alloc (.cells #[.int .i64 a0, .int .i64 a1, .int .i64 a2, .int .u64 a3, .int .u64 a4, .int .u64 a5] 24))) := ⟨below_alloc (Below.refl _ _) _⟩
  have HX : Aside0 ((w.alloc (.cells #[.int .i64 a0, .int .i64 a1, .int .i64 a2, .int .u64 a3, .int .u64 a4, .int .u64 a5] 24)).heap[w.heap.size]? = some (.cells #[.int .i64 a0, .int .i64 a1, .int .i64 a2, .int .u64 a3, .int .u64 a4, .int .u64 a5] 24 (0, 0))) := ⟨heap_alloc_new w (.cells #[.int .i64 a0, .int .i64 a1, .int .i64 a2, .int .u64 a3, .int .u64 a4, .int .u64 a5] 24)⟩
  have Z1 := Aside0.mk z1
  clear z1
  have Z2 := Aside0.mk z2
  clear z2
  have TT := Aside0.mk tt
  clear tt
  have S1 := Aside0.mk s1
  clear s1
  have S2 := Aside0.mk s2
  clear s2
  go_enter Tryd.func3, Tryd.ntmps3
  go_wp2_with fail
  go_wp2_with (first
    | (go_at_call 13; (with_reducible refine (laws_zzFits2.calls K A c L _ _ (Kd.C_below hl_.out HB.out) hc Z1.out).mono ?_); rintro en w1 ⟨rfl, hd⟩; (first | have hb := hd.below | have hb := hd); clear hd; have HB1 := Aside0.mk (below_then HB.out HB.out.size hb); have HX1 := Aside0.mk (blk_below HX.out hb); clear HB HX hb; have HB := HB1; have HX := HX1; clear HB1 HX1; (try clear hk0 hk1 hk2 hk3 hk4 hk5); obtain ⟨hk0, hk1, hk2, hk3, hk4, hk5⟩ := box6 HX.out)
    | (go_at_call 13; (with_reducible refine (laws_zzFits2.calls K A2 c2 M _ _ (Kd.C_below hm_.out HB.out) hc2 Z2.out).mono ?_); rintro en w2 ⟨rfl, hd⟩; (first | have hb := hd.below | have hb := hd); clear hd; have HB1 := Aside0.mk (below_then HB.out HB.out.size hb); have HX1 := Aside0.mk (blk_below HX.out hb); clear HB HX hb; have HB := HB1; have HX := HX1; clear HB1 HX1; (try clear hk0 hk1 hk2 hk3 hk4 hk5); obtain ⟨hk0, hk1, hk2, hk3, hk4, hk5⟩ := box6 HX.out)
    | (go_at_call 14; (with_reducible refine (spec_Terms.calls a0 a1 a2 a3 a4 a5 _ _ TT.out).mono ?_); rintro en w3 ⟨rfl, hd⟩; (first | have hb := hd.below | have hb := hd); clear hd; have HB1 := Aside0.mk (below_then HB.out HB.out.size hb); have HX1 := Aside0.mk (blk_below HX.out hb); clear HB HX hb; have HB := HB1; have HX := HX1; clear HB1 HX1; (try clear hk0 hk1 hk2 hk3 hk4 hk5); obtain ⟨hk0, hk1, hk2, hk3, hk4, hk5⟩ := box6 HX.out)
    | (go_at_call 15; (with_reducible refine (laws_logSmall.calls K A c L _ _ (Kd.C_below hl_.out HB.out) hc S1.out).mono ?_); rintro en w4 ⟨rfl, hd⟩; (first | have hb := hd.below | have hb := hd); clear hd; have HB1 := Aside0.mk (below_then HB.out HB.out.size hb); have HX1 := Aside0.mk (blk_below HX.out hb); clear HB HX hb; have HB := HB1; have HX := HX1; clear HB1 HX1; (try clear hk0 hk1 hk2 hk3 hk4 hk5); obtain ⟨hk0, hk1, hk2, hk3, hk4, hk5⟩ := box6 HX.out)
    | (go_at_call 15; (with_reducible refine (laws_logSmall.calls K A2 c2 M _ _ (Kd.C_below hm_.out HB.out) hc2 S2.out).mono ?_); rintro en w5 ⟨rfl, hd⟩; (first | have hb := hd.below | have hb := hd); clear hd; have HB1 := Aside0.mk (below_then HB.out HB.out.size hb); have HX1 := Aside0.mk (blk_below HX.out hb); clear HB HX hb; have HB := HB1; have HX := HX1; clear HB1 HX1; (try clear hk0 hk1 hk2 hk3 hk4 hk5); obtain ⟨hk0, hk1, hk2, hk3, hk4, hk5⟩ := box6 HX.out))
  go_ret
  exact ⟨rfl, HB.out⟩

set_option maxHeartbeats 4000000 in
set_option maxRecDepth 100000 in
theorem dt6 (K : Nat) (a0 a1 a2 a3 a4 a5 : Int) (A : Option Addr) (c : Nat) (L : List (List Int)) (A2 : Option Addr) (c2 : Nat) (M : List (List Int)) (w : World) (hl : CL w A L) (hc : L.length ≤ c) (hm : CL w A2 M) (hc2 : M.length ≤ c2) (z1 : laws_zzFits2.f K L = some true) (z2 : laws_zzFits2.f K M = some true) (tt : spec_Terms.f a0 a1 a2 a3 a4 a5 = some true) (s1 : laws_logSmall.f K L = some true) (s2 : laws_logSmall.f K M = some true) (HG_ : Glob w) (k : Nat) (hL hM : Nat → List Int) (rsL rsM : Nat → List (List (List Int))) (rL rM : List Int) (okL : TdOk a0 a1 a2 a3 a4 a5 L k hL rsL rL) (okM : TdOk a0 a1 a2 a3 a4 a5 M k hM rsM rM) (hlm : L.length = M.length) (hsame : spec_SameText.f rL rM = some (sameF L M)) :
    Calls Tryd.prog 3 #[.agg #[.int .i64 a0, .int .i64 a1, .int .i64 a2, .int .u64 a3, .int .u64 a4, .int .u64 a5], .slice A L.length c, .slice A2 M.length c2] w fun en w' => en = .returned (.bool true) ∧ Below w.heap.size w w' := by
  have hl_ := Aside0.mk hl
  have hm_ := Aside0.mk hm
  clear hl hm
  have HB : Aside0 (Below w.heap.size w (w.alloc (.cells #[.int .i64 a0, .int .i64 a1, .int .i64 a2, .int .u64 a3, .int .u64 a4, .int .u64 a5] 24))) := ⟨below_alloc (Below.refl _ _) _⟩
  have HX : Aside0 ((w.alloc (.cells #[.int .i64 a0, .int .i64 a1, .int .i64 a2, .int .u64 a3, .int .u64 a4, .int .u64 a5] 24)).heap[w.heap.size]? = some (.cells #[.int .i64 a0, .int .i64 a1, .int .i64 a2, .int .u64 a3, .int .u64 a4, .int .u64 a5] 24 (0, 0))) := ⟨heap_alloc_new w (.cells #[.int .i64 a0, .int .i64 a1, .int .i64 a2, .int .u64 a3, .int .u64 a4, .int .u64 a5] 24)⟩
  have Z1 := Aside0.mk z1
  clear z1
  have Z2 := Aside0.mk z2
  clear z2
  have TT := Aside0.mk tt
  clear tt
  have S1 := Aside0.mk s1
  clear s1
  have S2 := Aside0.mk s2
  clear s2
  have HG := Aside0.mk HG_
  have OL := Aside0.mk okL
  have OM := Aside0.mk okM
  have ML := Aside0.mk okL.ml
  clear HG_ okL okM
  have t1 : ((L.length : Int) == (M.length : Int)) = true := beq_iff_eq.2 (by omega)
  have t1n : (L.length == M.length) = true := beq_iff_eq.2 hlm
  obtain ⟨b0, hb0⟩ : ∃ b0, b0 = sameF L M := ⟨_, rfl⟩
  rw [← hb0] at hsame
  have HS := Aside0.mk hsame
  have HB0 := Aside0.mk hb0
  clear hlm hsame hb0
  have hw : ∀ z : Int, z = (L.length : Int) → IntKind.u64.wrap z = (L.length : Int) := fun z hz => by
    rw [hz]
    show (L.length : Int) % 18446744073709551616 = _
    have := ML.out
    omega
  go_enter Tryd.func3, Tryd.ntmps3
  go_wp2_with fail
  go_wp2_with (first
    | (go_at_call 13; (with_reducible refine (laws_zzFits2.calls K A c L _ _ (Kd.C_below hl_.out HB.out) hc Z1.out).mono ?_); rintro en w1 ⟨rfl, hd⟩; (first | have hb := hd.below | have hb := hd); clear hd; have HB1 := Aside0.mk (below_then HB.out HB.out.size hb); have HX1 := Aside0.mk (blk_below HX.out hb); clear HB HX hb; have HB := HB1; have HX := HX1; clear HB1 HX1; (try clear hk0 hk1 hk2 hk3 hk4 hk5); obtain ⟨hk0, hk1, hk2, hk3, hk4, hk5⟩ := box6 HX.out)
    | (go_at_call 13; (with_reducible refine (laws_zzFits2.calls K A2 c2 M _ _ (Kd.C_below hm_.out HB.out) hc2 Z2.out).mono ?_); rintro en w2 ⟨rfl, hd⟩; (first | have hb := hd.below | have hb := hd); clear hd; have HB1 := Aside0.mk (below_then HB.out HB.out.size hb); have HX1 := Aside0.mk (blk_below HX.out hb); clear HB HX hb; have HB := HB1; have HX := HX1; clear HB1 HX1; (try clear hk0 hk1 hk2 hk3 hk4 hk5); obtain ⟨hk0, hk1, hk2, hk3, hk4, hk5⟩ := box6 HX.out)
    | (go_at_call 14; (with_reducible refine (spec_Terms.calls a0 a1 a2 a3 a4 a5 _ _ TT.out).mono ?_); rintro en w3 ⟨rfl, hd⟩; (first | have hb := hd.below | have hb := hd); clear hd; have HB1 := Aside0.mk (below_then HB.out HB.out.size hb); have HX1 := Aside0.mk (blk_below HX.out hb); clear HB HX hb; have HB := HB1; have HX := HX1; clear HB1 HX1; (try clear hk0 hk1 hk2 hk3 hk4 hk5); obtain ⟨hk0, hk1, hk2, hk3, hk4, hk5⟩ := box6 HX.out)
    | (go_at_call 15; (with_reducible refine (laws_logSmall.calls K A c L _ _ (Kd.C_below hl_.out HB.out) hc S1.out).mono ?_); rintro en w4 ⟨rfl, hd⟩; (first | have hb := hd.below | have hb := hd); clear hd; have HB1 := Aside0.mk (below_then HB.out HB.out.size hb); have HX1 := Aside0.mk (blk_below HX.out hb); clear HB HX hb; have HB := HB1; have HX := HX1; clear HB1 HX1; (try clear hk0 hk1 hk2 hk3 hk4 hk5); obtain ⟨hk0, hk1, hk2, hk3, hk4, hk5⟩ := box6 HX.out)
    | (go_at_call 15; (with_reducible refine (laws_logSmall.calls K A2 c2 M _ _ (Kd.C_below hm_.out HB.out) hc2 S2.out).mono ?_); rintro en w5 ⟨rfl, hd⟩; (first | have hb := hd.below | have hb := hd); clear hd; have HB1 := Aside0.mk (below_then HB.out HB.out.size hb); have HX1 := Aside0.mk (blk_below HX.out hb); clear HB HX hb; have HB := HB1; have HX := HX1; clear HB1 HX1; (try clear hk0 hk1 hk2 hk3 hk4 hk5); obtain ⟨hk0, hk1, hk2, hk3, hk4, hk5⟩ := box6 HX.out))
  go_wp2_with (first
    | (go_at_call 16; (with_reducible refine (tree_of OL.out A c _ (Kd.C_below hl_.out HB.out) hc (Glob.below HG.out HB.out)).mono ?_); rintro en w6 ⟨vl6, A6, c6, rfl, hd6, hC6, hb⟩; have HD6 := Aside0.mk hd6; have HC6 := Aside0.mk hC6; clear hd6 hC6; have HB1 := Aside0.mk (below_then HB.out HB.out.size hb); have HX1 := Aside0.mk (blk_below HX.out hb); clear HB HX hb; have HB := HB1; have HX := HX1; clear HB1 HX1; (try clear hk0 hk1 hk2 hk3 hk4 hk5); obtain ⟨hk0, hk1, hk2, hk3, hk4, hk5⟩ := box6 HX.out))
  go_wp2_with (first
    | (go_at_call 16; (with_reducible refine (tree_of OM.out A2 c2 _ (Kd.C_below hm_.out HB.out) hc2 (Glob.below HG.out HB.out)).mono ?_); rintro en w7 ⟨vl7, A7, c7, rfl, hd7, hC7, hb⟩; have HD7 := Aside0.mk hd7; have HC7 := Aside0.mk hC7; have HC6b := Aside0.mk (Kd.C_below HC6.out hb); clear hd7 hC7; have HB1 := Aside0.mk (below_then HB.out HB.out.size hb); have HX1 := Aside0.mk (blk_below HX.out hb); clear HB HX hb; have HB := HB1; have HX := HX1; clear HB1 HX1; (try clear hk0 hk1 hk2 hk3 hk4 hk5); obtain ⟨hk0, hk1, hk2, hk3, hk4, hk5⟩ := box6 HX.out))
  go_wp2_with (first
    | (go_at_call 17; (with_reducible refine (spec_SameText.calls A6 c6 rL A7 c7 rM b0 _ HC6b.out HD6.out HC7.out HD7.out HS.out).mono ?_); rintro en w8 ⟨rfl, hd⟩; (first | have hb := hd.below | have hb := hd); clear hd; have HB1 := Aside0.mk (below_then HB.out HB.out.size hb); have HX1 := Aside0.mk (blk_below HX.out hb); clear HB HX hb; have HB := HB1; have HX := HX1; clear HB1 HX1; (try clear hk0 hk1 hk2 hk3 hk4 hk5); obtain ⟨hk0, hk1, hk2, hk3, hk4, hk5⟩ := box6 HX.out)
    | (go_at_call 18; (with_reducible refine (Hs.same_calls A c L A2 c2 M (by have := ML.out; omega) _ (Kd.C_below hl_.out HB.out) (Kd.C_below hm_.out HB.out)).mono ?_); rintro en w9 ⟨rfl, hd⟩; rw [← HB0.out]; (first | have hb := hd.below | have hb := hd); clear hd; have HB1 := Aside0.mk (below_then HB.out HB.out.size hb); have HX1 := Aside0.mk (blk_below HX.out hb); clear HB HX hb; have HB := HB1; have HX := HX1; clear HB1 HX1; (try clear hk0 hk1 hk2 hk3 hk4 hk5); obtain ⟨hk0, hk1, hk2, hk3, hk4, hk5⟩ := box6 HX.out))
  go_ret
  exact ⟨by first | rfl | simp, HB.out⟩

set_option maxHeartbeats 4000000 in
set_option maxRecDepth 100000 in
theorem dt7 (K : Nat) (a0 a1 a2 a3 a4 a5 : Int) (A : Option Addr) (c : Nat) (L : List (List Int)) (A2 : Option Addr) (c2 : Nat) (M : List (List Int)) (w : World) (hl : CL w A L) (hc : L.length ≤ c) (hm : CL w A2 M) (hc2 : M.length ≤ c2) (z1 : laws_zzFits2.f K L = some true) (z2 : laws_zzFits2.f K M = some true) (tt : spec_Terms.f a0 a1 a2 a3 a4 a5 = some true) (s1 : laws_logSmall.f K L = some true) (s2 : laws_logSmall.f K M = some true) (HG_ : Glob w) (k : Nat) (hL hM : Nat → List Int) (rsL rsM : Nat → List (List (List Int))) (rL rM : List Int) (okL : TdOk a0 a1 a2 a3 a4 a5 L k hL rsL rL) (okM : TdOk a0 a1 a2 a3 a4 a5 M k hM rsM rM) (hlm : L.length ≠ M.length) :
    Calls Tryd.prog 3 #[.agg #[.int .i64 a0, .int .i64 a1, .int .i64 a2, .int .u64 a3, .int .u64 a4, .int .u64 a5], .slice A L.length c, .slice A2 M.length c2] w fun en w' => en = .returned (.bool true) ∧ Below w.heap.size w w' := by
  have hl_ := Aside0.mk hl
  have hm_ := Aside0.mk hm
  clear hl hm
  have HB : Aside0 (Below w.heap.size w (w.alloc (.cells #[.int .i64 a0, .int .i64 a1, .int .i64 a2, .int .u64 a3, .int .u64 a4, .int .u64 a5] 24))) := ⟨below_alloc (Below.refl _ _) _⟩
  have HX : Aside0 ((w.alloc (.cells #[.int .i64 a0, .int .i64 a1, .int .i64 a2, .int .u64 a3, .int .u64 a4, .int .u64 a5] 24)).heap[w.heap.size]? = some (.cells #[.int .i64 a0, .int .i64 a1, .int .i64 a2, .int .u64 a3, .int .u64 a4, .int .u64 a5] 24 (0, 0))) := ⟨heap_alloc_new w (.cells #[.int .i64 a0, .int .i64 a1, .int .i64 a2, .int .u64 a3, .int .u64 a4, .int .u64 a5] 24)⟩
  have Z1 := Aside0.mk z1
  clear z1
  have Z2 := Aside0.mk z2
  clear z2
  have TT := Aside0.mk tt
  clear tt
  have S1 := Aside0.mk s1
  clear s1
  have S2 := Aside0.mk s2
  clear s2
  have HG := Aside0.mk HG_
  have OL := Aside0.mk okL
  have OM := Aside0.mk okM
  have ML := Aside0.mk okL.ml
  clear HG_ okL okM
  have t1 : ((L.length : Int) == (M.length : Int)) = false := beq_eq_false_iff_ne.2 (by omega)
  have t1n : (L.length == M.length) = false := beq_eq_false_iff_ne.2 hlm
  have HF := Aside0.mk (sameF_ne hlm)
  clear hlm
  have hw : ∀ z : Int, z = (L.length : Int) → IntKind.u64.wrap z = (L.length : Int) := fun z hz => by
    rw [hz]
    show (L.length : Int) % 18446744073709551616 = _
    have := ML.out
    omega
  go_enter Tryd.func3, Tryd.ntmps3
  go_wp2_with fail
  go_wp2_with (first
    | (go_at_call 13; (with_reducible refine (laws_zzFits2.calls K A c L _ _ (Kd.C_below hl_.out HB.out) hc Z1.out).mono ?_); rintro en w1 ⟨rfl, hd⟩; (first | have hb := hd.below | have hb := hd); clear hd; have HB1 := Aside0.mk (below_then HB.out HB.out.size hb); have HX1 := Aside0.mk (blk_below HX.out hb); clear HB HX hb; have HB := HB1; have HX := HX1; clear HB1 HX1; (try clear hk0 hk1 hk2 hk3 hk4 hk5); obtain ⟨hk0, hk1, hk2, hk3, hk4, hk5⟩ := box6 HX.out)
    | (go_at_call 13; (with_reducible refine (laws_zzFits2.calls K A2 c2 M _ _ (Kd.C_below hm_.out HB.out) hc2 Z2.out).mono ?_); rintro en w2 ⟨rfl, hd⟩; (first | have hb := hd.below | have hb := hd); clear hd; have HB1 := Aside0.mk (below_then HB.out HB.out.size hb); have HX1 := Aside0.mk (blk_below HX.out hb); clear HB HX hb; have HB := HB1; have HX := HX1; clear HB1 HX1; (try clear hk0 hk1 hk2 hk3 hk4 hk5); obtain ⟨hk0, hk1, hk2, hk3, hk4, hk5⟩ := box6 HX.out)
    | (go_at_call 14; (with_reducible refine (spec_Terms.calls a0 a1 a2 a3 a4 a5 _ _ TT.out).mono ?_); rintro en w3 ⟨rfl, hd⟩; (first | have hb := hd.below | have hb := hd); clear hd; have HB1 := Aside0.mk (below_then HB.out HB.out.size hb); have HX1 := Aside0.mk (blk_below HX.out hb); clear HB HX hb; have HB := HB1; have HX := HX1; clear HB1 HX1; (try clear hk0 hk1 hk2 hk3 hk4 hk5); obtain ⟨hk0, hk1, hk2, hk3, hk4, hk5⟩ := box6 HX.out)
    | (go_at_call 15; (with_reducible refine (laws_logSmall.calls K A c L _ _ (Kd.C_below hl_.out HB.out) hc S1.out).mono ?_); rintro en w4 ⟨rfl, hd⟩; (first | have hb := hd.below | have hb := hd); clear hd; have HB1 := Aside0.mk (below_then HB.out HB.out.size hb); have HX1 := Aside0.mk (blk_below HX.out hb); clear HB HX hb; have HB := HB1; have HX := HX1; clear HB1 HX1; (try clear hk0 hk1 hk2 hk3 hk4 hk5); obtain ⟨hk0, hk1, hk2, hk3, hk4, hk5⟩ := box6 HX.out)
    | (go_at_call 15; (with_reducible refine (laws_logSmall.calls K A2 c2 M _ _ (Kd.C_below hm_.out HB.out) hc2 S2.out).mono ?_); rintro en w5 ⟨rfl, hd⟩; (first | have hb := hd.below | have hb := hd); clear hd; have HB1 := Aside0.mk (below_then HB.out HB.out.size hb); have HX1 := Aside0.mk (blk_below HX.out hb); clear HB HX hb; have HB := HB1; have HX := HX1; clear HB1 HX1; (try clear hk0 hk1 hk2 hk3 hk4 hk5); obtain ⟨hk0, hk1, hk2, hk3, hk4, hk5⟩ := box6 HX.out))
  go_wp2_with (first
    | (go_at_call 16; (with_reducible refine (tree_of OL.out A c _ (Kd.C_below hl_.out HB.out) hc (Glob.below HG.out HB.out)).mono ?_); rintro en w6 ⟨vl6, A6, c6, rfl, hd6, hC6, hb⟩; have HD6 := Aside0.mk hd6; have HC6 := Aside0.mk hC6; clear hd6 hC6; have HB1 := Aside0.mk (below_then HB.out HB.out.size hb); have HX1 := Aside0.mk (blk_below HX.out hb); clear HB HX hb; have HB := HB1; have HX := HX1; clear HB1 HX1; (try clear hk0 hk1 hk2 hk3 hk4 hk5); obtain ⟨hk0, hk1, hk2, hk3, hk4, hk5⟩ := box6 HX.out))
  go_wp2_with (first
    | (go_at_call 16; (with_reducible refine (tree_of OM.out A2 c2 _ (Kd.C_below hm_.out HB.out) hc2 (Glob.below HG.out HB.out)).mono ?_); rintro en w7 ⟨vl7, A7, c7, rfl, hd7, hC7, hb⟩; have HD7 := Aside0.mk hd7; have HC7 := Aside0.mk hC7; have HC6b := Aside0.mk (Kd.C_below HC6.out hb); clear hd7 hC7; have HB1 := Aside0.mk (below_then HB.out HB.out.size hb); have HX1 := Aside0.mk (blk_below HX.out hb); clear HB HX hb; have HB := HB1; have HX := HX1; clear HB1 HX1; (try clear hk0 hk1 hk2 hk3 hk4 hk5); obtain ⟨hk0, hk1, hk2, hk3, hk4, hk5⟩ := box6 HX.out))
  go_wp2_with (first
    | (go_at_call 18; (with_reducible refine (Hs.same_calls A c L A2 c2 M (by have := ML.out; omega) _ (Kd.C_below hl_.out HB.out) (Kd.C_below hm_.out HB.out)).mono ?_); rintro en w9 ⟨rfl, hd⟩; rw [HF.out]; (first | have hb := hd.below | have hb := hd); clear hd; have HB1 := Aside0.mk (below_then HB.out HB.out.size hb); have HX1 := Aside0.mk (blk_below HX.out hb); clear HB HX hb; have HB := HB1; have HX := HX1; clear HB1 HX1; (try clear hk0 hk1 hk2 hk3 hk4 hk5); obtain ⟨hk0, hk1, hk2, hk3, hk4, hk5⟩ := box6 HX.out))
  go_ret
  exact ⟨by first | rfl | simp, HB.out⟩

end Go.Proofs.YtfhcpniibiobgaaDoor.Qf
