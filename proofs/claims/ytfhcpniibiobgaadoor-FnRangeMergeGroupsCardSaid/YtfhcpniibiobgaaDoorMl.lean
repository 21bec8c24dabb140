/- The law FnRangeMergeGroups, walked (printed by gen_lawmg.py). -/
import Derived.Test.YtfhcpniibiobgaaDoorJt
import Derived.Test.YtfhcpniibiobgaaDoorGi
namespace Go.Proofs.YtfhcpniibiobgaaDoor.Qf
open Go.RowKit Go.Proofs.YtfhcpniibiobgaaDoorW.PrintWords Go.Proofs.YtfhcpniibiobgaaDoorW.PrintLast Go.Proofs.YtfhcpniibiobgaaDoorW.PrintMore
open Hs (CB CL at_L at_B infoB infoL R_of_blk sameF)

theorem box6 {w : World} {g : Nat} {a0 a1 a2 a3 a4 a5 : Int} (h : w.heap[g]? = some (.cells #[.int .i64 a0, .int .i64 a1, .int .i64 a2, .int .u64 a3, .int .u64 a4, .int .u64 a5] 24 (0, 0))) : w.cell? ⟨g, 0, none⟩ = some (.int .i64 a0) ∧ w.cell? ⟨g, 1, none⟩ = some (.int .i64 a1) ∧ w.cell? ⟨g, 2, none⟩ = some (.int .i64 a2) ∧ w.cell? ⟨g, 3, none⟩ = some (.int .u64 a3) ∧ w.cell? ⟨g, 4, none⟩ = some (.int .u64 a4) ∧ w.cell? ⟨g, 5, none⟩ = some (.int .u64 a5) :=
  ⟨(blk_cell h 0).trans rfl, (blk_cell h 1).trans rfl, (blk_cell h 2).trans rfl, (blk_cell h 3).trans rfl, (blk_cell h 4).trans rfl, (blk_cell h 5).trans rfl⟩
theorem box3 {w : World} {g : Nat} {b e : Int} {A : Option Addr} {n c : Nat} (h : w.heap[g]? = some (.cells #[.int .u64 b, .int .u64 e, .slice A n c] 35 (0, 0))) : w.cell? ⟨g, 0, none⟩ = some (.int .u64 b) ∧ w.cell? ⟨g, 1, none⟩ = some (.int .u64 e) ∧ w.cell? ⟨g, 2, none⟩ = some (.slice A n c) :=
  ⟨(blk_cell h 0).trans rfl, (blk_cell h 1).trans rfl, (blk_cell h 2).trans rfl⟩
theorem allocs4' (w : World) (c1 : Array Value) (t1 : Nat) (c2 : Array Value) (t2 : Nat) (c3 : Array Value) (t3 : Nat) (c4 : Array Value) (t4 : Nat) : Below w.heap.size w ((((w.alloc (.cells c1 t1)).alloc (.cells c2 t2)).alloc (.cells c3 t3)).alloc (.cells c4 t4)) ∧ ((((w.alloc (.cells c1 t1)).alloc (.cells c2 t2)).alloc (.cells c3 t3)).alloc (.cells c4 t4)).heap[w.heap.size]? = some (.cells c1 t1 (0, 0)) ∧ ((((w.alloc (.cells c1 t1)).alloc (.cells c2 t2)).alloc (.cells c3 t3)).alloc (.cells c4 t4)).heap[w.heap.size + 1]? = some (.cells c2 t2 (0, 0)) ∧ ((((w.alloc (.cells c1 t1)).alloc (.cells c2 t2)).alloc (.cells c3 t3)).alloc (.cells c4 t4)).heap[w.heap.size + 1 + 1]? = some (.cells c3 t3 (0, 0)) ∧ ((((w.alloc (.cells c1 t1)).alloc (.cells c2 t2)).alloc (.cells c3 t3)).alloc (.cells c4 t4)).heap[w.heap.size + 1 + 1 + 1]? = some (.cells c4 t4 (0, 0)) := by
  obtain ⟨h1, _, _, _, _, _⟩ := allocs5 w c1 t1 c2 t2 c3 t3 c4 t4 c4 t4
  have s1 : (w.alloc (.cells c1 t1)).heap.size = w.heap.size + 1 := by simp
  have s2 : ((w.alloc (.cells c1 t1)).alloc (.cells c2 t2)).heap.size = w.heap.size + 1 + 1 := by simp
  have s3 : (((w.alloc (.cells c1 t1)).alloc (.cells c2 t2)).alloc (.cells c3 t3)).heap.size = w.heap.size + 1 + 1 + 1 := by simp
  refine ⟨below_alloc (below_alloc (below_alloc (below_alloc (Below.refl _ _) _) _) _) _, ?_, ?_, ?_, ?_⟩
  · exact blk_below (heap_alloc_new w (.cells c1 t1)) (below_alloc (below_alloc (below_alloc (Below.refl _ _) _) _) _)
  · have h := blk_below (heap_alloc_new (w.alloc (.cells c1 t1)) (.cells c2 t2)) (below_alloc (below_alloc (Below.refl _ _) (.cells c3 t3)) (.cells c4 t4))
    rwa [s1] at h
  · have h := blk_below (heap_alloc_new ((w.alloc (.cells c1 t1)).alloc (.cells c2 t2)) (.cells c3 t3)) (below_alloc (Below.refl _ _) (.cells c4 t4))
    rwa [s2] at h
  · have h := heap_alloc_new (((w.alloc (.cells c1 t1)).alloc (.cells c2 t2)).alloc (.cells c3 t3)) (.cells c4 t4)
    rwa [s3] at h
/-- What a call of AppendRange wants. -/
structure ArOk (a0 a1 a2 a3 a4 a5 : Int) (b e x : Nat) (l m l' : List (List Int)) (k : Nat) : Prop where
  t1 : impl_texts.f k l = some l
  t2 : impl_texts.f k m = some m
  t3 : impl_texts.f k l' = some l'
  be : b ≤ e
  ex : e ≤ x
  s1 : compact_RangeSize.f (b : Int) (e : Int) = some (l.length : Int)
  s2 : compact_RangeSize.f (e : Int) (x : Int) = some (m.length : Int)
  e64 : e < 18446744073709551616
  n1 : l.length ≤ 400
  n2 : m.length ≤ 400
  st : MGen a0 a1 a2 a3 a4 a5 b e x l m l'
theorem ArOk.calls {a0 a1 a2 a3 a4 a5 : Int} {b e x : Nat} {l m l' : List (List Int)} {k : Nat} (h : ArOk a0 a1 a2 a3 a4 a5 b e x l m l' k) {A : Option Addr} {c : Nat} {Am : Option Addr} {cm : Nat} {w : World} (hl : CL w A l) (hc : l.length ≤ c) (hm : CL w Am m) (hcm : m.length ≤ cm) (HG : Glob w) :
    Calls Tryd.prog 33 #[.agg #[.int .i64 a0, .int .i64 a1, .int .i64 a2, .int .u64 a3, .int .u64 a4, .int .u64 a5], .agg #[.int .u64 (b : Nat), .int .u64 (e : Nat), .slice A l.length c], .agg #[.int .u64 (e : Nat), .int .u64 (x : Nat), .slice Am m.length cm]] w fun en w' => ∃ A' d' vs, en = .returned (.tuple #[.agg #[.int .u64 (b : Nat), .int .u64 (x : Nat), .slice A' l'.length d'], vs, .bool true]) ∧ l'.length ≤ d' ∧ CL w' A' l' ∧ Below w.heap.size w w' :=
  (appendRange2_calls a0 a1 a2 a3 a4 a5 b e x A c l Am cm m l' k w hc hcm hl hm HG h.t1 h.t2 h.t3 h.be h.ex h.s1 h.s2 h.e64 h.n1 h.n2 h.st).mono fun _ _ ⟨v, vs, he, hS, hb⟩ => by
    obtain ⟨A', d', rfl, hd, hC⟩ := Kd.S_reads hS
    exact ⟨A', d', vs, he, hd, hC, hb⟩
/-- What a call of Append of one hash wants. -/
structure ApOk1 (a0 a1 a2 a3 a4 a5 : Int) (b e : Nat) (l m l' : List (List Int)) (k : Nat) : Prop where
  t1 : impl_texts.f k l = some l
  t2 : impl_texts.f k m = some m
  t3 : impl_texts.f k l' = some l'
  be : b ≤ e
  s1 : compact_RangeSize.f (b : Int) (e : Int) = some (l.length : Int)
  m1 : m.length = 1
  mr : (m.getD 0 []).length ≤ 140737488351232
  e64 : e + 1 < 18446744073709551616
  n1 : l.length ≤ 300
  n2 : l'.length ≤ 500
  st : MStep a0 a1 a2 a3 a4 a5 b e l (m.getD 0 []) l'
theorem ApOk1.calls {a0 a1 a2 a3 a4 a5 : Int} {b e : Nat} {l m l' : List (List Int)} {k : Nat} (h : ApOk1 a0 a1 a2 a3 a4 a5 b e l m l' k) {A : Option Addr} {c : Nat} {Am : Option Addr} {cm : Nat} {w : World} (hl : CL w A l) (hc : l.length ≤ c) (hm : CL w Am m) (hcm : m.length ≤ cm) (HG : Glob w) :
    Calls Tryd.prog 26 #[.agg #[.int .i64 a0, .int .i64 a1, .int .i64 a2, .int .u64 a3, .int .u64 a4, .int .u64 a5], .agg #[.int .u64 (b : Nat), .int .u64 (e : Nat), .slice A l.length c], .slice Am m.length cm] w fun en w' => ∃ A' d' vs, en = .returned (.tuple #[.agg #[.int .u64 (b : Nat), .int .u64 ((e + 1 : Nat) : Int), .slice A' l'.length d'], vs, .bool true]) ∧ l'.length ≤ d' ∧ CL w' A' l' ∧ Below w.heap.size w w' := by
  have h1 := h.m1
  have hst : ∀ j, j < m.length → MStep a0 a1 a2 a3 a4 a5 b (e + j) (if j = 0 then l else l') (m.getD j []) (if j + 1 = 0 then l else l') := fun j hj => by
    obtain rfl : j = 0 := by omega
    rw [if_pos rfl, if_neg (by omega)]
    exact h.st
  have hmr : ∀ j, j < m.length → (m.getD j []).length ≤ 140737488351232 := fun j hj => by
    obtain rfl : j = 0 := by omega
    exact h.mr
  have hsl : ∀ j, j ≤ m.length → ((fun j => if j = 0 then l else l') j).length ≤ 500 := fun j _ => by
    have := h.n1
    have := h.n2
    show (if j = 0 then l else l').length ≤ 500
    split <;> omega
  have := append_calls a0 a1 a2 a3 a4 a5 b e A c l Am cm m (fun j => if j = 0 then l else l') k w hc hcm hl hm HG h.t1 h.t2 (by rw [h1]; exact h.t3) h.be h.s1 (by rw [h1]; exact h.e64) h.n1 (by omega) hmr rfl hst hsl
  refine this.mono fun _ _ ⟨v, vs, he, hS, hb⟩ => ?_
  rw [h1] at he hS
  have hS : Kd.S (Kd.slice 5 (Kd.int .u8)) 28 _ w.heap.size (fun _ => True) v l' := hS
  obtain ⟨A', d', rfl, hd, hC⟩ := Kd.S_reads hS
  exact ⟨A', d', vs, he, hd, hC, hb⟩

set_option maxHeartbeats 2000000 in
set_option maxRecDepth 100000 in
theorem mg1 (K : Nat) (a0 a1 a2 a3 a4 a5 : Int) (b1 z1 b2 z2 b3 z3 : Nat) (A1 : Option Addr) (c1 : Nat) (l1 : List (List Int)) (A2 : Option Addr) (c2 : Nat) (l2 : List (List Int)) (A3 : Option Addr) (c3 : Nat) (l3 : List (List Int)) (w : World) (h1 : CL w A1 l1) (n1 : l1.length ≤ c1) (h2 : CL w A2 l2) (n2 : l2.length ≤ c2) (h3 : CL w A3 l3) (n3 : l3.length ≤ c3) (z1_ : laws_zzFits7.f K (b1 : Int) (z1 : Int) l1 = some false) :
    Calls Tryd.prog 8 #[.agg #[.int .i64 a0, .int .i64 a1, .int .i64 a2, .int .u64 a3, .int .u64 a4, .int .u64 a5], .agg #[.int .u64 (b1 : Nat), .int .u64 (z1 : Nat), .slice A1 l1.length c1], .agg #[.int .u64 (b2 : Nat), .int .u64 (z2 : Nat), .slice A2 l2.length c2], .agg #[.int .u64 (b3 : Nat), .int .u64 (z3 : Nat), .slice A3 l3.length c3]] w fun en w' => en = .returned (.bool true) ∧ Below w.heap.size w w' := by
  have h1_ := Aside0.mk h1
  clear h1
  have h2_ := Aside0.mk h2
  clear h2
  have h3_ := Aside0.mk h3
  clear h3
  have _u := And.intro n1 (And.intro n2 (And.intro n3 (Eq.refl K)))
  clear _u
  obtain ⟨hB0, hX0, hX1, hX2, hX3⟩ := allocs4' w #[.int .i64 a0, .int .i64 a1, .int .i64 a2, .int .u64 a3, .int .u64 a4, .int .u64 a5] 24 #[.int .u64 (b1 : Nat), .int .u64 (z1 : Nat), .slice A1 l1.length c1] 35 #[.int .u64 (b2 : Nat), .int .u64 (z2 : Nat), .slice A2 l2.length c2] 35 #[.int .u64 (b3 : Nat), .int .u64 (z3 : Nat), .slice A3 l3.length c3] 35
  have HB := Aside0.mk hB0
  have HX := Aside0.mk hX0
  have X1 := Aside0.mk hX1
  have X2 := Aside0.mk hX2
  have X3 := Aside0.mk hX3
  clear hB0 hX0 hX1 hX2 hX3
  have Z1 := Aside0.mk z1_
  clear z1_
  go_enter Tryd.func8, Tryd.ntmps8
  go_wp2_with fail
  (try generalize ((((w.alloc (.cells #[.int .i64 a0, .int .i64 a1, .int .i64 a2, .int .u64 a3, .int .u64 a4, .int .u64 a5] 24)).alloc (.cells #[.int .u64 (b1 : Nat), .int .u64 (z1 : Nat), .slice A1 l1.length c1] 35)).alloc (.cells #[.int .u64 (b2 : Nat), .int .u64 (z2 : Nat), .slice A2 l2.length c2] 35)).alloc (.cells #[.int .u64 (b3 : Nat), .int .u64 (z3 : Nat), .slice A3 l3.length c3] 35)) = wA at HB HX X1 X2 X3 ⊢)
  (try clear hk0 hk1 hk2 hk3 hk4 hk5 x10 x11 x12 x20 x21 x22 x30 x31 x32)
  obtain ⟨hk0, hk1, hk2, hk3, hk4, hk5⟩ := box6 HX.out
  obtain ⟨x10, x11, x12⟩ := box3 X1.out
  obtain ⟨x20, x21, x22⟩ := box3 X2.out
  obtain ⟨x30, x31, x32⟩ := box3 X3.out
  go_wp2_with (first
    | (go_at_call 19; (with_reducible refine (laws_zzFits7.calls K (b1 : Int) (z1 : Int) A1 c1 l1 _ _ (Kd.C_below h1_.out HB.out) n1 Z1.out).mono ?_); rintro en wz1 ⟨rfl, hb⟩; have HBn := Aside0.mk (below_then HB.out HB.out.size hb); have HXn := Aside0.mk (blk_below HX.out hb); have X1n := Aside0.mk (blk_below X1.out hb); have X2n := Aside0.mk (blk_below X2.out hb); have X3n := Aside0.mk (blk_below X3.out hb); clear hb HB HX X1 X2 X3; have HB := HBn; have HX := HXn; have X1 := X1n; have X2 := X2n; have X3 := X3n; clear HBn HXn X1n X2n X3n; (try clear hk0 hk1 hk2 hk3 hk4 hk5 x10 x11 x12 x20 x21 x22 x30 x31 x32); obtain ⟨hk0, hk1, hk2, hk3, hk4, hk5⟩ := box6 HX.out; obtain ⟨x10, x11, x12⟩ := box3 X1.out; obtain ⟨x20, x21, x22⟩ := box3 X2.out; obtain ⟨x30, x31, x32⟩ := box3 X3.out))
  go_ret
  exact ⟨rfl, HB.out⟩

set_option maxHeartbeats 2000000 in
set_option maxRecDepth 100000 in
theorem mg2 (K : Nat) (a0 a1 a2 a3 a4 a5 : Int) (b1 z1 b2 z2 b3 z3 : Nat) (A1 : Option Addr) (c1 : Nat) (l1 : List (List Int)) (A2 : Option Addr) (c2 : Nat) (l2 : List (List Int)) (A3 : Option Addr) (c3 : Nat) (l3 : List (List Int)) (w : World) (h1 : CL w A1 l1) (n1 : l1.length ≤ c1) (h2 : CL w A2 l2) (n2 : l2.length ≤ c2) (h3 : CL w A3 l3) (n3 : l3.length ≤ c3) (z1_ : laws_zzFits7.f K (b1 : Int) (z1 : Int) l1 = some true) (z2_ : laws_zzFits7.f K (b2 : Int) (z2 : Int) l2 = some false) :
    Calls Tryd.prog 8 #[.agg #[.int .i64 a0, .int .i64 a1, .int .i64 a2, .int .u64 a3, .int .u64 a4, .int .u64 a5], .agg #[.int .u64 (b1 : Nat), .int .u64 (z1 : Nat), .slice A1 l1.length c1], .agg #[.int .u64 (b2 : Nat), .int .u64 (z2 : Nat), .slice A2 l2.length c2], .agg #[.int .u64 (b3 : Nat), .int .u64 (z3 : Nat), .slice A3 l3.length c3]] w fun en w' => en = .returned (.bool true) ∧ Below w.heap.size w w' := by
  have h1_ := Aside0.mk h1
  clear h1
  have h2_ := Aside0.mk h2
  clear h2
  have h3_ := Aside0.mk h3
  clear h3
  have _u := And.intro n1 (And.intro n2 (And.intro n3 (Eq.refl K)))
  clear _u
  obtain ⟨hB0, hX0, hX1, hX2, hX3⟩ := allocs4' w #[.int .i64 a0, .int .i64 a1, .int .i64 a2, .int .u64 a3, .int .u64 a4, .int .u64 a5] 24 #[.int .u64 (b1 : Nat), .int .u64 (z1 : Nat), .slice A1 l1.length c1] 35 #[.int .u64 (b2 : Nat), .int .u64 (z2 : Nat), .slice A2 l2.length c2] 35 #[.int .u64 (b3 : Nat), .int .u64 (z3 : Nat), .slice A3 l3.length c3] 35
  have HB := Aside0.mk hB0
  have HX := Aside0.mk hX0
  have X1 := Aside0.mk hX1
  have X2 := Aside0.mk hX2
  have X3 := Aside0.mk hX3
  clear hB0 hX0 hX1 hX2 hX3
  have Z1 := Aside0.mk z1_
  clear z1_
  have Z2 := Aside0.mk z2_
  clear z2_
  go_enter Tryd.func8, Tryd.ntmps8
  go_wp2_with fail
  (try generalize ((((w.alloc (.cells #[.int .i64 a0, .int .i64 a1, .int .i64 a2, .int .u64 a3, .int .u64 a4, .int .u64 a5] 24)).alloc (.cells #[.int .u64 (b1 : Nat), .int .u64 (z1 : Nat), .slice A1 l1.length c1] 35)).alloc (.cells #[.int .u64 (b2 : Nat), .int .u64 (z2 : Nat), .slice A2 l2.length c2] 35)).alloc (.cells #[.int .u64 (b3 : Nat), .int .u64 (z3 : Nat), .slice A3 l3.length c3] 35)) = wA at HB HX X1 X2 X3 ⊢)
  (try clear hk0 hk1 hk2 hk3 hk4 hk5 x10 x11 x12 x20 x21 x22 x30 x31 x32)
  obtain ⟨hk0, hk1, hk2, hk3, hk4, hk5⟩ := box6 HX.out
  obtain ⟨x10, x11, x12⟩ := box3 X1.out
  obtain ⟨x20, x21, x22⟩ := box3 X2.out
  obtain ⟨x30, x31, x32⟩ := box3 X3.out
  go_wp2_with (first
    | (go_at_call 19; (with_reducible refine (laws_zzFits7.calls K (b1 : Int) (z1 : Int) A1 c1 l1 _ _ (Kd.C_below h1_.out HB.out) n1 Z1.out).mono ?_); rintro en wz1 ⟨rfl, hb⟩; have HBn := Aside0.mk (below_then HB.out HB.out.size hb); have HXn := Aside0.mk (blk_below HX.out hb); have X1n := Aside0.mk (blk_below X1.out hb); have X2n := Aside0.mk (blk_below X2.out hb); have X3n := Aside0.mk (blk_below X3.out hb); clear hb HB HX X1 X2 X3; have HB := HBn; have HX := HXn; have X1 := X1n; have X2 := X2n; have X3 := X3n; clear HBn HXn X1n X2n X3n; (try clear hk0 hk1 hk2 hk3 hk4 hk5 x10 x11 x12 x20 x21 x22 x30 x31 x32); obtain ⟨hk0, hk1, hk2, hk3, hk4, hk5⟩ := box6 HX.out; obtain ⟨x10, x11, x12⟩ := box3 X1.out; obtain ⟨x20, x21, x22⟩ := box3 X2.out; obtain ⟨x30, x31, x32⟩ := box3 X3.out)
    | (go_at_call 19; (with_reducible refine (laws_zzFits7.calls K (b2 : Int) (z2 : Int) A2 c2 l2 _ _ (Kd.C_below h2_.out HB.out) n2 Z2.out).mono ?_); rintro en wz2 ⟨rfl, hb⟩; have HBn := Aside0.mk (below_then HB.out HB.out.size hb); have HXn := Aside0.mk (blk_below HX.out hb); have X1n := Aside0.mk (blk_below X1.out hb); have X2n := Aside0.mk (blk_below X2.out hb); have X3n := Aside0.mk (blk_below X3.out hb); clear hb HB HX X1 X2 X3; have HB := HBn; have HX := HXn; have X1 := X1n; have X2 := X2n; have X3 := X3n; clear HBn HXn X1n X2n X3n; (try clear hk0 hk1 hk2 hk3 hk4 hk5 x10 x11 x12 x20 x21 x22 x30 x31 x32); obtain ⟨hk0, hk1, hk2, hk3, hk4, hk5⟩ := box6 HX.out; obtain ⟨x10, x11, x12⟩ := box3 X1.out; obtain ⟨x20, x21, x22⟩ := box3 X2.out; obtain ⟨x30, x31, x32⟩ := box3 X3.out))
  go_ret
  exact ⟨rfl, HB.out⟩

set_option maxHeartbeats 2000000 in
set_option maxRecDepth 100000 in
theorem mg3 (K : Nat) (a0 a1 a2 a3 a4 a5 : Int) (b1 z1 b2 z2 b3 z3 : Nat) (A1 : Option Addr) (c1 : Nat) (l1 : List (List Int)) (A2 : Option Addr) (c2 : Nat) (l2 : List (List Int)) (A3 : Option Addr) (c3 : Nat) (l3 : List (List Int)) (w : World) (h1 : CL w A1 l1) (n1 : l1.length ≤ c1) (h2 : CL w A2 l2) (n2 : l2.length ≤ c2) (h3 : CL w A3 l3) (n3 : l3.length ≤ c3) (z1_ : laws_zzFits7.f K (b1 : Int) (z1 : Int) l1 = some true) (z2_ : laws_zzFits7.f K (b2 : Int) (z2 : Int) l2 = some true) (z3_ : laws_zzFits7.f K (b3 : Int) (z3 : Int) l3 = some false) :
    Calls Tryd.prog 8 #[.agg #[.int .i64 a0, .int .i64 a1, .int .i64 a2, .int .u64 a3, .int .u64 a4, .int .u64 a5], .agg #[.int .u64 (b1 : Nat), .int .u64 (z1 : Nat), .slice A1 l1.length c1], .agg #[.int .u64 (b2 : Nat), .int .u64 (z2 : Nat), .slice A2 l2.length c2], .agg #[.int .u64 (b3 : Nat), .int .u64 (z3 : Nat), .slice A3 l3.length c3]] w fun en w' => en = .returned (.bool true) ∧ Below w.heap.size w w' := by
  have h1_ := Aside0.mk h1
  clear h1
  have h2_ := Aside0.mk h2
  clear h2
  have h3_ := Aside0.mk h3
  clear h3
  have _u := And.intro n1 (And.intro n2 (And.intro n3 (Eq.refl K)))
  clear _u
  obtain ⟨hB0, hX0, hX1, hX2, hX3⟩ := allocs4' w #[.int .i64 a0, .int .i64 a1, .int .i64 a2, .int .u64 a3, .int .u64 a4, .int .u64 a5] 24 #[.int .u64 (b1 : Nat), .int .u64 (z1 : Nat), .slice A1 l1.length c1] 35 #[.int .u64 (b2 : Nat), .int .u64 (z2 : Nat), .slice A2 l2.length c2] 35 #[.int .u64 (b3 : Nat), .int .u64 (z3 : Nat), .slice A3 l3.length c3] 35
  have HB := Aside0.mk hB0
  have HX := Aside0.mk hX0
  have X1 := Aside0.mk hX1
  have X2 := Aside0.mk hX2
  have X3 := Aside0.mk hX3
  clear hB0 hX0 hX1 hX2 hX3
  have Z1 := Aside0.mk z1_
  clear z1_
  have Z2 := Aside0.mk z2_
  clear z2_
  have Z3 := Aside0.mk z3_
  clear z3_
  go_enter Tryd.func8, Tryd.ntmps8
  go_wp2_with fail
  (try generalize ((((w.alloc (.cells #[.int .i64 a0, .int .i64 a1, .int .i64 a2, .int .u64 a3, .int .u64 a4, .int .u64 a5] 24)).alloc (.cells #[.int .u64 (b1 : Nat), .int .u64 (z1 : Nat), .slice A1 l1.length c1] 35)).alloc (.cells #[.int .u64 (b2 : Nat), .int .u64 (z2 : Nat), .slice A2 l2.length c2] 35)).alloc (.cells #[.int .u64 (b3 : Nat), .int .u64 (z3 : Nat), .slice A3 l3.length c3] 35)) = wA at HB HX X1 X2 X3 ⊢)
  (try clear hk0 hk1 hk2 hk3 hk4 hk5 x10 x11 x12 x20 x21 x22 x30 x31 x32)
  obtain ⟨hk0, hk1, hk2, hk3, hk4, hk5⟩ := box6 HX.out
  obtain ⟨x10, x11, x12⟩ := box3 X1.out
  obtain ⟨x20, x21, x22⟩ := box3 X2.out
  obtain ⟨x30, x31, x32⟩ := box3 X3.out
  go_wp2_with (first
    | (go_at_call 19; (with_reducible refine (laws_zzFits7.calls K (b1 : Int) (z1 : Int) A1 c1 l1 _ _ (Kd.C_below h1_.out HB.out) n1 Z1.out).mono ?_); rintro en wz1 ⟨rfl, hb⟩; have HBn := Aside0.mk (below_then HB.out HB.out.size hb); have HXn := Aside0.mk (blk_below HX.out hb); have X1n := Aside0.mk (blk_below X1.out hb); have X2n := Aside0.mk (blk_below X2.out hb); have X3n := Aside0.mk (blk_below X3.out hb); clear hb HB HX X1 X2 X3; have HB := HBn; have HX := HXn; have X1 := X1n; have X2 := X2n; have X3 := X3n; clear HBn HXn X1n X2n X3n; (try clear hk0 hk1 hk2 hk3 hk4 hk5 x10 x11 x12 x20 x21 x22 x30 x31 x32); obtain ⟨hk0, hk1, hk2, hk3, hk4, hk5⟩ := box6 HX.out; obtain ⟨x10, x11, x12⟩ := box3 X1.out; obtain ⟨x20, x21, x22⟩ := box3 X2.out; obtain ⟨x30, x31, x32⟩ := box3 X3.out)
    | (go_at_call 19; (with_reducible refine (laws_zzFits7.calls K (b2 : Int) (z2 : Int) A2 c2 l2 _ _ (Kd.C_below h2_.out HB.out) n2 Z2.out).mono ?_); rintro en wz2 ⟨rfl, hb⟩; have HBn := Aside0.mk (below_then HB.out HB.out.size hb); have HXn := Aside0.mk (blk_below HX.out hb); have X1n := Aside0.mk (blk_below X1.out hb); have X2n := Aside0.mk (blk_below X2.out hb); have X3n := Aside0.mk (blk_below X3.out hb); clear hb HB HX X1 X2 X3; have HB := HBn; have HX := HXn; have X1 := X1n; have X2 := X2n; have X3 := X3n; clear HBn HXn X1n X2n X3n; (try clear hk0 hk1 hk2 hk3 hk4 hk5 x10 x11 x12 x20 x21 x22 x30 x31 x32); obtain ⟨hk0, hk1, hk2, hk3, hk4, hk5⟩ := box6 HX.out; obtain ⟨x10, x11, x12⟩ := box3 X1.out; obtain ⟨x20, x21, x22⟩ := box3 X2.out; obtain ⟨x30, x31, x32⟩ := box3 X3.out)
    | (go_at_call 19; (with_reducible refine (laws_zzFits7.calls K (b3 : Int) (z3 : Int) A3 c3 l3 _ _ (Kd.C_below h3_.out HB.out) n3 Z3.out).mono ?_); rintro en wz3 ⟨rfl, hb⟩; have HBn := Aside0.mk (below_then HB.out HB.out.size hb); have HXn := Aside0.mk (blk_below HX.out hb); have X1n := Aside0.mk (blk_below X1.out hb); have X2n := Aside0.mk (blk_below X2.out hb); have X3n := Aside0.mk (blk_below X3.out hb); clear hb HB HX X1 X2 X3; have HB := HBn; have HX := HXn; have X1 := X1n; have X2 := X2n; have X3 := X3n; clear HBn HXn X1n X2n X3n; (try clear hk0 hk1 hk2 hk3 hk4 hk5 x10 x11 x12 x20 x21 x22 x30 x31 x32); obtain ⟨hk0, hk1, hk2, hk3, hk4, hk5⟩ := box6 HX.out; obtain ⟨x10, x11, x12⟩ := box3 X1.out; obtain ⟨x20, x21, x22⟩ := box3 X2.out; obtain ⟨x30, x31, x32⟩ := box3 X3.out))
  go_ret
  exact ⟨rfl, HB.out⟩

set_option maxHeartbeats 2000000 in
set_option maxRecDepth 100000 in
theorem mg4 (K : Nat) (a0 a1 a2 a3 a4 a5 : Int) (b1 z1 b2 z2 b3 z3 : Nat) (A1 : Option Addr) (c1 : Nat) (l1 : List (List Int)) (A2 : Option Addr) (c2 : Nat) (l2 : List (List Int)) (A3 : Option Addr) (c3 : Nat) (l3 : List (List Int)) (w : World) (h1 : CL w A1 l1) (n1 : l1.length ≤ c1) (h2 : CL w A2 l2) (n2 : l2.length ≤ c2) (h3 : CL w A3 l3) (n3 : l3.length ≤ c3) (z1_ : laws_zzFits7.f K (b1 : Int) (z1 : Int) l1 = some true) (z2_ : laws_zzFits7.f K (b2 : Int) (z2 : Int) l2 = some true) (z3_ : laws_zzFits7.f K (b3 : Int) (z3 : Int) l3 = some true) (r1_ : laws_rangeFair.f K (b1 : Int) (z1 : Int) l1 = some false) :
    Calls Tryd.prog 8 #[.agg #[.int .i64 a0, .int .i64 a1, .int .i64 a2, .int .u64 a3, .int .u64 a4, .int .u64 a5], .agg #[.int .u64 (b1 : Nat), .int .u64 (z1 : Nat), .slice A1 l1.length c1], .agg #[.int .u64 (b2 : Nat), .int .u64 (z2 : Nat), .slice A2 l2.length c2], .agg #[.int .u64 (b3 : Nat), .int .u64 (z3 : Nat), .slice A3 l3.length c3]] w fun en w' => en = .returned (.bool true) ∧ Below w.heap.size w w' := by
  have h1_ := Aside0.mk h1
  clear h1
  have h2_ := Aside0.mk h2
  clear h2
  have h3_ := Aside0.mk h3
  clear h3
  have _u := And.intro n1 (And.intro n2 (And.intro n3 (Eq.refl K)))
  clear _u
  obtain ⟨hB0, hX0, hX1, hX2, hX3⟩ := allocs4' w #[.int .i64 a0, .int .i64 a1, .int .i64 a2, .int .u64 a3, .int .u64 a4, .int .u64 a5] 24 #[.int .u64 (b1 : Nat), .int .u64 (z1 : Nat), .slice A1 l1.length c1] 35 #[.int .u64 (b2 : Nat), .int .u64 (z2 : Nat), .slice A2 l2.length c2] 35 #[.int .u64 (b3 : Nat), .int .u64 (z3 : Nat), .slice A3 l3.length c3] 35
  have HB := Aside0.mk hB0
  have HX := Aside0.mk hX0
  have X1 := Aside0.mk hX1
  have X2 := Aside0.mk hX2
  have X3 := Aside0.mk hX3
  clear hB0 hX0 hX1 hX2 hX3
  have Z1 := Aside0.mk z1_
  clear z1_
  have Z2 := Aside0.mk z2_
  clear z2_
  have Z3 := Aside0.mk z3_
  clear z3_
  have R1 := Aside0.mk r1_
  clear r1_
  go_enter Tryd.func8, Tryd.ntmps8
  go_wp2_with fail
  (try generalize ((((w.alloc (.cells #[.int .i64 a0, .int .i64 a1, .int .i64 a2, .int .u64 a3, .int .u64 a4, .int .u64 a5] 24)).alloc (.cells #[.int .u64 (b1 : Nat), .int .u64 (z1 : Nat), .slice A1 l1.length c1] 35)).alloc (.cells #[.int .u64 (b2 : Nat), .int .u64 (z2 : Nat), .slice A2 l2.length c2] 35)).alloc (.cells #[.int .u64 (b3 : Nat), .int .u64 (z3 : Nat), .slice A3 l3.length c3] 35)) = wA at HB HX X1 X2 X3 ⊢)
  (try clear hk0 hk1 hk2 hk3 hk4 hk5 x10 x11 x12 x20 x21 x22 x30 x31 x32)
  obtain ⟨hk0, hk1, hk2, hk3, hk4, hk5⟩ := box6 HX.out
  obtain ⟨x10, x11, x12⟩ := box3 X1.out
  obtain ⟨x20, x21, x22⟩ := box3 X2.out
  obtain ⟨x30, x31, x32⟩ := box3 X3.out
  go_wp2_with (first
    | (go_at_call 19; (with_reducible refine (laws_zzFits7.calls K (b1 : Int) (z1 : Int) A1 c1 l1 _ _ (Kd.C_below h1_.out HB.out) n1 Z1.out).mono ?_); rintro en wz1 ⟨rfl, hb⟩; have HBn := Aside0.mk (below_then HB.out HB.out.size hb); have HXn := Aside0.mk (blk_below HX.out hb); have X1n := Aside0.mk (blk_below X1.out hb); have X2n := Aside0.mk (blk_below X2.out hb); have X3n := Aside0.mk (blk_below X3.out hb); clear hb HB HX X1 X2 X3; have HB := HBn; have HX := HXn; have X1 := X1n; have X2 := X2n; have X3 := X3n; clear HBn HXn X1n X2n X3n; (try clear hk0 hk1 hk2 hk3 hk4 hk5 x10 x11 x12 x20 x21 x22 x30 x31 x32); obtain ⟨hk0, hk1, hk2, hk3, hk4, hk5⟩ := box6 HX.out; obtain ⟨x10, x11, x12⟩ := box3 X1.out; obtain ⟨x20, x21, x22⟩ := box3 X2.out; obtain ⟨x30, x31, x32⟩ := box3 X3.out)
    | (go_at_call 19; (with_reducible refine (laws_zzFits7.calls K (b2 : Int) (z2 : Int) A2 c2 l2 _ _ (Kd.C_below h2_.out HB.out) n2 Z2.out).mono ?_); rintro en wz2 ⟨rfl, hb⟩; have HBn := Aside0.mk (below_then HB.out HB.out.size hb); have HXn := Aside0.mk (blk_below HX.out hb); have X1n := Aside0.mk (blk_below X1.out hb); have X2n := Aside0.mk (blk_below X2.out hb); have X3n := Aside0.mk (blk_below X3.out hb); clear hb HB HX X1 X2 X3; have HB := HBn; have HX := HXn; have X1 := X1n; have X2 := X2n; have X3 := X3n; clear HBn HXn X1n X2n X3n; (try clear hk0 hk1 hk2 hk3 hk4 hk5 x10 x11 x12 x20 x21 x22 x30 x31 x32); obtain ⟨hk0, hk1, hk2, hk3, hk4, hk5⟩ := box6 HX.out; obtain ⟨x10, x11, x12⟩ := box3 X1.out; obtain ⟨x20, x21, x22⟩ := box3 X2.out; obtain ⟨x30, x31, x32⟩ := box3 X3.out)
    | (go_at_call 19; (with_reducible refine (laws_zzFits7.calls K (b3 : Int) (z3 : Int) A3 c3 l3 _ _ (Kd.C_below h3_.out HB.out) n3 Z3.out).mono ?_); rintro en wz3 ⟨rfl, hb⟩; have HBn := Aside0.mk (below_then HB.out HB.out.size hb); have HXn := Aside0.mk (blk_below HX.out hb); have X1n := Aside0.mk (blk_below X1.out hb); have X2n := Aside0.mk (blk_below X2.out hb); have X3n := Aside0.mk (blk_below X3.out hb); clear hb HB HX X1 X2 X3; have HB := HBn; have HX := HXn; have X1 := X1n; have X2 := X2n; have X3 := X3n; clear HBn HXn X1n X2n X3n; (try clear hk0 hk1 hk2 hk3 hk4 hk5 x10 x11 x12 x20 x21 x22 x30 x31 x32); obtain ⟨hk0, hk1, hk2, hk3, hk4, hk5⟩ := box6 HX.out; obtain ⟨x10, x11, x12⟩ := box3 X1.out; obtain ⟨x20, x21, x22⟩ := box3 X2.out; obtain ⟨x30, x31, x32⟩ := box3 X3.out)
    | (go_at_call 20; (with_reducible refine (laws_rangeFair.calls K (b1 : Int) (z1 : Int) A1 c1 l1 _ _ (Kd.C_below h1_.out HB.out) n1 R1.out).mono ?_); rintro en wr1 ⟨rfl, hb⟩; have HBn := Aside0.mk (below_then HB.out HB.out.size hb); have HXn := Aside0.mk (blk_below HX.out hb); have X1n := Aside0.mk (blk_below X1.out hb); have X2n := Aside0.mk (blk_below X2.out hb); have X3n := Aside0.mk (blk_below X3.out hb); clear hb HB HX X1 X2 X3; have HB := HBn; have HX := HXn; have X1 := X1n; have X2 := X2n; have X3 := X3n; clear HBn HXn X1n X2n X3n; (try clear hk0 hk1 hk2 hk3 hk4 hk5 x10 x11 x12 x20 x21 x22 x30 x31 x32); obtain ⟨hk0, hk1, hk2, hk3, hk4, hk5⟩ := box6 HX.out; obtain ⟨x10, x11, x12⟩ := box3 X1.out; obtain ⟨x20, x21, x22⟩ := box3 X2.out; obtain ⟨x30, x31, x32⟩ := box3 X3.out))
  go_ret
  exact ⟨rfl, HB.out⟩

set_option maxHeartbeats 2000000 in
set_option maxRecDepth 100000 in
theorem mg5 (K : Nat) (a0 a1 a2 a3 a4 a5 : Int) (b1 z1 b2 z2 b3 z3 : Nat) (A1 : Option Addr) (c1 : Nat) (l1 : List (List Int)) (A2 : Option Addr) (c2 : Nat) (l2 : List (List Int)) (A3 : Option Addr) (c3 : Nat) (l3 : List (List Int)) (w : World) (h1 : CL w A1 l1) (n1 : l1.length ≤ c1) (h2 : CL w A2 l2) (n2 : l2.length ≤ c2) (h3 : CL w A3 l3) (n3 : l3.length ≤ c3) (z1_ : laws_zzFits7.f K (b1 : Int) (z1 : Int) l1 = some true) (z2_ : laws_zzFits7.f K (b2 : Int) (z2 : Int) l2 = some true) (z3_ : laws_zzFits7.f K (b3 : Int) (z3 : Int) l3 = some true) (r1_ : laws_rangeFair.f K (b1 : Int) (z1 : Int) l1 = some true) (r2_ : laws_rangeFair.f K (b2 : Int) (z2 : Int) l2 = some false) :
    Calls Tryd.prog 8 #[.agg #[.int .i64 a0, .int .i64 a1, .int .i64 a2, .int .u64 a3, .int .u64 a4, .int .u64 a5], .agg #[.int .u64 (b1 : Nat), .int .u64 (z1 : Nat), .slice A1 l1.length c1], .agg #[.int .u64 (b2 : Nat), .int .u64 (z2 : Nat), .slice A2 l2.length c2], .agg #[.int .u64 (b3 : Nat), .int .u64 (z3 : Nat), .slice A3 l3.length c3]] w fun en w' => en = .returned (.bool true) ∧ Below w.heap.size w w' := by
  have h1_ := Aside0.mk h1
  clear h1
  have h2_ := Aside0.mk h2
  clear h2
  have h3_ := Aside0.mk h3
  clear h3
  have _u := And.intro n1 (And.intro n2 (And.intro n3 (Eq.refl K)))
  clear _u
  obtain ⟨hB0, hX0, hX1, hX2, hX3⟩ := allocs4' w #[.int .i64 a0, .int .i64 a1, .int .i64 a2, .int .u64 a3, .int .u64 a4, .int .u64 a5] 24 #[.int .u64 (b1 : Nat), .int .u64 (z1 : Nat), .slice A1 l1.length c1] 35 #[.int .u64 (b2 : Nat), .int .u64 (z2 : Nat), .slice A2 l2.length c2] 35 #[.int .u64 (b3 : Nat), .int .u64 (z3 : Nat), .slice A3 l3.length c3] 35
  have HB := Aside0.mk hB0
  have HX := Aside0.mk hX0
  have X1 := Aside0.mk hX1
  have X2 := Aside0.mk hX2
  have X3 := Aside0.mk hX3
  clear hB0 hX0 hX1 hX2 hX3
  have Z1 := Aside0.mk z1_
  clear z1_
  have Z2 := Aside0.mk z2_
  clear z2_
  have Z3 := Aside0.mk z3_
  clear z3_
  have R1 := Aside0.mk r1_
  clear r1_
  have R2 := Aside0.mk r2_
  clear r2_
  go_enter Tryd.func8, Tryd.ntmps8
  go_wp2_with fail
  (try generalize ((((w.alloc (.cells #[.int .i64 a0, .int .i64 a1, .int .i64 a2, .int .u64 a3, .int .u64 a4, .int .u64 a5] 24)).alloc (.cells #[.int .u64 (b1 : Nat), .int .u64 (z1 : Nat), .slice A1 l1.length c1] 35)).alloc (.cells #[.int .u64 (b2 : Nat), .int .u64 (z2 : Nat), .slice A2 l2.length c2] 35)).alloc (.cells #[.int .u64 (b3 : Nat), .int .u64 (z3 : Nat), .slice A3 l3.length c3] 35)) = wA at HB HX X1 X2 X3 ⊢)
  (try clear hk0 hk1 hk2 hk3 hk4 hk5 x10 x11 x12 x20 x21 x22 x30 x31 x32)
  obtain ⟨hk0, hk1, hk2, hk3, hk4, hk5⟩ := box6 HX.out
  obtain ⟨x10, x11, x12⟩ := box3 X1.out
  obtain ⟨x20, x21, x22⟩ := box3 X2.out
  obtain ⟨x30, x31, x32⟩ := box3 X3.out
  go_wp2_with (first
    | (go_at_call 19; (with_reducible refine (laws_zzFits7.calls K (b1 : Int) (z1 : Int) A1 c1 l1 _ _ (Kd.C_below h1_.out HB.out) n1 Z1.out).mono ?_); rintro en wz1 ⟨rfl, hb⟩; have HBn := Aside0.mk (below_then HB.out HB.out.size hb); have HXn := Aside0.mk (blk_below HX.out hb); have X1n := Aside0.mk (blk_below X1.out hb); have X2n := Aside0.mk (blk_below X2.out hb); have X3n := Aside0.mk (blk_below X3.out hb); clear hb HB HX X1 X2 X3; have HB := HBn; have HX := HXn; have X1 := X1n; have X2 := X2n; have X3 := X3n; clear HBn HXn X1n X2n X3n; (try clear hk0 hk1 hk2 hk3 hk4 hk5 x10 x11 x12 x20 x21 x22 x30 x31 x32); obtain ⟨hk0, hk1, hk2, hk3, hk4, hk5⟩ := box6 HX.out; obtain ⟨x10, x11, x12⟩ := box3 X1.out; obtain ⟨x20, x21, x22⟩ := box3 X2.out; obtain ⟨x30, x31, x32⟩ := box3 X3.out)
    | (go_at_call 19; (with_reducible refine (laws_zzFits7.calls K (b2 : Int) (z2 : Int) A2 c2 l2 _ _ (Kd.C_below h2_.out HB.out) n2 Z2.out).mono ?_); rintro en wz2 ⟨rfl, hb⟩; have HBn := Aside0.mk (below_then HB.out HB.out.size hb); have HXn := Aside0.mk (blk_below HX.out hb); have X1n := Aside0.mk (blk_below X1.out hb); have X2n := Aside0.mk (blk_below X2.out hb); have X3n := Aside0.mk (blk_below X3.out hb); clear hb HB HX X1 X2 X3; have HB := HBn; have HX := HXn; have X1 := X1n; have X2 := X2n; have X3 := X3n; clear HBn HXn X1n X2n X3n; (try clear hk0 hk1 hk2 hk3 hk4 hk5 x10 x11 x12 x20 x21 x22 x30 x31 x32); obtain ⟨hk0, hk1, hk2, hk3, hk4, hk5⟩ := box6 HX.out; obtain ⟨x10, x11, x12⟩ := box3 X1.out; obtain ⟨x20, x21, x22⟩ := box3 X2.out; obtain ⟨x30, x31, x32⟩ := box3 X3.out)
    | (go_at_call 19; (with_reducible refine (laws_zzFits7.calls K (b3 : Int) (z3 : Int) A3 c3 l3 _ _ (Kd.C_below h3_.out HB.out) n3 Z3.out).mono ?_); rintro en wz3 ⟨rfl, hb⟩; have HBn := Aside0.mk (below_then HB.out HB.out.size hb); have HXn := Aside0.mk (blk_below HX.out hb); have X1n := Aside0.mk (blk_below X1.out hb); have X2n := Aside0.mk (blk_below X2.out hb); have X3n := Aside0.mk (blk_below X3.out hb); clear hb HB HX X1 X2 X3; have HB := HBn; have HX := HXn; have X1 := X1n; have X2 := X2n; have X3 := X3n; clear HBn HXn X1n X2n X3n; (try clear hk0 hk1 hk2 hk3 hk4 hk5 x10 x11 x12 x20 x21 x22 x30 x31 x32); obtain ⟨hk0, hk1, hk2, hk3, hk4, hk5⟩ := box6 HX.out; obtain ⟨x10, x11, x12⟩ := box3 X1.out; obtain ⟨x20, x21, x22⟩ := box3 X2.out; obtain ⟨x30, x31, x32⟩ := box3 X3.out)
    | (go_at_call 20; (with_reducible refine (laws_rangeFair.calls K (b1 : Int) (z1 : Int) A1 c1 l1 _ _ (Kd.C_below h1_.out HB.out) n1 R1.out).mono ?_); rintro en wr1 ⟨rfl, hb⟩; have HBn := Aside0.mk (below_then HB.out HB.out.size hb); have HXn := Aside0.mk (blk_below HX.out hb); have X1n := Aside0.mk (blk_below X1.out hb); have X2n := Aside0.mk (blk_below X2.out hb); have X3n := Aside0.mk (blk_below X3.out hb); clear hb HB HX X1 X2 X3; have HB := HBn; have HX := HXn; have X1 := X1n; have X2 := X2n; have X3 := X3n; clear HBn HXn X1n X2n X3n; (try clear hk0 hk1 hk2 hk3 hk4 hk5 x10 x11 x12 x20 x21 x22 x30 x31 x32); obtain ⟨hk0, hk1, hk2, hk3, hk4, hk5⟩ := box6 HX.out; obtain ⟨x10, x11, x12⟩ := box3 X1.out; obtain ⟨x20, x21, x22⟩ := box3 X2.out; obtain ⟨x30, x31, x32⟩ := box3 X3.out)
    | (go_at_call 20; (with_reducible refine (laws_rangeFair.calls K (b2 : Int) (z2 : Int) A2 c2 l2 _ _ (Kd.C_below h2_.out HB.out) n2 R2.out).mono ?_); rintro en wr2 ⟨rfl, hb⟩; have HBn := Aside0.mk (below_then HB.out HB.out.size hb); have HXn := Aside0.mk (blk_below HX.out hb); have X1n := Aside0.mk (blk_below X1.out hb); have X2n := Aside0.mk (blk_below X2.out hb); have X3n := Aside0.mk (blk_below X3.out hb); clear hb HB HX X1 X2 X3; have HB := HBn; have HX := HXn; have X1 := X1n; have X2 := X2n; have X3 := X3n; clear HBn HXn X1n X2n X3n; (try clear hk0 hk1 hk2 hk3 hk4 hk5 x10 x11 x12 x20 x21 x22 x30 x31 x32); obtain ⟨hk0, hk1, hk2, hk3, hk4, hk5⟩ := box6 HX.out; obtain ⟨x10, x11, x12⟩ := box3 X1.out; obtain ⟨x20, x21, x22⟩ := box3 X2.out; obtain ⟨x30, x31, x32⟩ := box3 X3.out))
  go_ret
  exact ⟨rfl, HB.out⟩

set_option maxHeartbeats 2000000 in
set_option maxRecDepth 100000 in
theorem mg6 (K : Nat) (a0 a1 a2 a3 a4 a5 : Int) (b1 z1 b2 z2 b3 z3 : Nat) (A1 : Option Addr) (c1 : Nat) (l1 : List (List Int)) (A2 : Option Addr) (c2 : Nat) (l2 : List (List Int)) (A3 : Option Addr) (c3 : Nat) (l3 : List (List Int)) (w : World) (h1 : CL w A1 l1) (n1 : l1.length ≤ c1) (h2 : CL w A2 l2) (n2 : l2.length ≤ c2) (h3 : CL w A3 l3) (n3 : l3.length ≤ c3) (z1_ : laws_zzFits7.f K (b1 : Int) (z1 : Int) l1 = some true) (z2_ : laws_zzFits7.f K (b2 : Int) (z2 : Int) l2 = some true) (z3_ : laws_zzFits7.f K (b3 : Int) (z3 : Int) l3 = some true) (r1_ : laws_rangeFair.f K (b1 : Int) (z1 : Int) l1 = some true) (r2_ : laws_rangeFair.f K (b2 : Int) (z2 : Int) l2 = some true) (r3_ : laws_rangeFair.f K (b3 : Int) (z3 : Int) l3 = some false) :
    Calls Tryd.prog 8 #[.agg #[.int .i64 a0, .int .i64 a1, .int .i64 a2, .int .u64 a3, .int .u64 a4, .int .u64 a5], .agg #[.int .u64 (b1 : Nat), .int .u64 (z1 : Nat), .slice A1 l1.length c1], .agg #[.int .u64 (b2 : Nat), .int .u64 (z2 : Nat), .slice A2 l2.length c2], .agg #[.int .u64 (b3 : Nat), .int .u64 (z3 : Nat), .slice A3 l3.length c3]] w fun en w' => en = .returned (.bool true) ∧ Below w.heap.size w w' := by
  have h1_ := Aside0.mk h1
  clear h1
  have h2_ := Aside0.mk h2
  clear h2
  have h3_ := Aside0.mk h3
  clear h3
  have _u := And.intro n1 (And.intro n2 (And.intro n3 (Eq.refl K)))
  clear _u
  obtain ⟨hB0, hX0, hX1, hX2, hX3⟩ := allocs4' w #[.int .i64 a0, .int .i64 a1, .int .i64 a2, .int .u64 a3, .int .u64 a4, .int .u64 a5] 24 #[.int .u64 (b1 : Nat), .int .u64 (z1 : Nat), .slice A1 l1.length c1] 35 #[.int .u64 (b2 : Nat), .int .u64 (z2 : Nat), .slice A2 l2.length c2] 35 #[.int .u64 (b3 : Nat), .int .u64 (z3 : Nat), .slice A3 l3.length c3] 35
  have HB := Aside0.mk hB0
  have HX := Aside0.mk hX0
  have X1 := Aside0.mk hX1
  have X2 := Aside0.mk hX2
  have X3 := Aside0.mk hX3
  clear hB0 hX0 hX1 hX2 hX3
  have Z1 := Aside0.mk z1_
  clear z1_
  have Z2 := Aside0.mk z2_
  clear z2_
  have Z3 := Aside0.mk z3_
  clear z3_
  have R1 := Aside0.mk r1_
  clear r1_
  have R2 := Aside0.mk r2_
  clear r2_
  have R3 := Aside0.mk r3_
  clear r3_
  go_enter Tryd.func8, Tryd.ntmps8
  go_wp2_with fail
  (try generalize ((((w.alloc (.cells #[.int .i64 a0, .int .i64 a1, .int .i64 a2, .int .u64 a3, .int .u64 a4, .int .u64 a5] 24)).alloc (.cells #[.int .u64 (b1 : Nat), .int .u64 (z1 : Nat), .slice A1 l1.length c1] 35)).alloc (.cells #[.int .u64 (b2 : Nat), .int .u64 (z2 : Nat), .slice A2 l2.length c2] 35)).alloc (.cells #[.int .u64 (b3 : Nat), .int .u64 (z3 : Nat), .slice A3 l3.length c3] 35)) = wA at HB HX X1 X2 X3 ⊢)
  (try clear hk0 hk1 hk2 hk3 hk4 hk5 x10 x11 x12 x20 x21 x22 x30 x31 x32)
  obtain ⟨hk0, hk1, hk2, hk3, hk4, hk5⟩ := box6 HX.out
  obtain ⟨x10, x11, x12⟩ := box3 X1.out
  obtain ⟨x20, x21, x22⟩ := box3 X2.out
  obtain ⟨x30, x31, x32⟩ := box3 X3.out
  go_wp2_with (first
    | (go_at_call 19; (with_reducible refine (laws_zzFits7.calls K (b1 : Int) (z1 : Int) A1 c1 l1 _ _ (Kd.C_below h1_.out HB.out) n1 Z1.out).mono ?_); rintro en wz1 ⟨rfl, hb⟩; have HBn := Aside0.mk (below_then HB.out HB.out.size hb); have HXn := Aside0.mk (blk_below HX.out hb); have X1n := Aside0.mk (blk_below X1.out hb); have X2n := Aside0.mk (blk_below X2.out hb); have X3n := Aside0.mk (blk_below X3.out hb); clear hb HB HX X1 X2 X3; have HB := HBn; have HX := HXn; have X1 := X1n; have X2 := X2n; have X3 := X3n; clear HBn HXn X1n X2n X3n; (try clear hk0 hk1 hk2 hk3 hk4 hk5 x10 x11 x12 x20 x21 x22 x30 x31 x32); obtain ⟨hk0, hk1, hk2, hk3, hk4, hk5⟩ := box6 HX.out; obtain ⟨x10, x11, x12⟩ := box3 X1.out; obtain ⟨x20, x21, x22⟩ := box3 X2.out; obtain ⟨x30, x31, x32⟩ := box3 X3.out)
    | (go_at_call 19; (with_reducible refine (laws_zzFits7.calls K (b2 : Int) (z2 : Int) A2 c2 l2 _ _ (Kd.C_below h2_.out HB.out) n2 Z2.out).mono ?_); rintro en wz2 ⟨rfl, hb⟩; have HBn := Aside0.mk (below_then HB.out HB.out.size hb); have HXn := Aside0.mk (blk_below HX.out hb); have X1n := Aside0.mk (blk_below X1.out hb); have X2n := Aside0.mk (blk_below X2.out hb); have X3n := Aside0.mk (blk_below X3.out hb); clear hb HB HX X1 X2 X3; have HB := HBn; have HX := HXn; have X1 := X1n; have X2 := X2n; have X3 := X3n; clear HBn HXn X1n X2n X3n; (try clear hk0 hk1 hk2 hk3 hk4 hk5 x10 x11 x12 x20 x21 x22 x30 x31 x32); obtain ⟨hk0, hk1, hk2, hk3, hk4, hk5⟩ := box6 HX.out; obtain ⟨x10, x11, x12⟩ := box3 X1.out; obtain ⟨x20, x21, x22⟩ := box3 X2.out; obtain ⟨x30, x31, x32⟩ := box3 X3.out)
    | (go_at_call 19; (with_reducible refine (laws_zzFits7.calls K (b3 : Int) (z3 : Int) A3 c3 l3 _ _ (Kd.C_below h3_.out HB.out) n3 Z3.out).mono ?_); rintro en wz3 ⟨rfl, hb⟩; have HBn := Aside0.mk (below_then HB.out HB.out.size hb); have HXn := Aside0.mk (blk_below HX.out hb); have X1n := Aside0.mk (blk_below X1.out hb); have X2n := Aside0.mk (blk_below X2.out hb); have X3n := Aside0.mk (blk_below X3.out hb); clear hb HB HX X1 X2 X3; have HB := HBn; have HX := HXn; have X1 := X1n; have X2 := X2n; have X3 := X3n; clear HBn HXn X1n X2n X3n; (try clear hk0 hk1 hk2 hk3 hk4 hk5 x10 x11 x12 x20 x21 x22 x30 x31 x32); obtain ⟨hk0, hk1, hk2, hk3, hk4, hk5⟩ := box6 HX.out; obtain ⟨x10, x11, x12⟩ := box3 X1.out; obtain ⟨x20, x21, x22⟩ := box3 X2.out; obtain ⟨x30, x31, x32⟩ := box3 X3.out)
    | (go_at_call 20; (with_reducible refine (laws_rangeFair.calls K (b1 : Int) (z1 : Int) A1 c1 l1 _ _ (Kd.C_below h1_.out HB.out) n1 R1.out).mono ?_); rintro en wr1 ⟨rfl, hb⟩; have HBn := Aside0.mk (below_then HB.out HB.out.size hb); have HXn := Aside0.mk (blk_below HX.out hb); have X1n := Aside0.mk (blk_below X1.out hb); have X2n := Aside0.mk (blk_below X2.out hb); have X3n := Aside0.mk (blk_below X3.out hb); clear hb HB HX X1 X2 X3; have HB := HBn; have HX := HXn; have X1 := X1n; have X2 := X2n; have X3 := X3n; clear HBn HXn X1n X2n X3n; (try clear hk0 hk1 hk2 hk3 hk4 hk5 x10 x11 x12 x20 x21 x22 x30 x31 x32); obtain ⟨hk0, hk1, hk2, hk3, hk4, hk5⟩ := box6 HX.out; obtain ⟨x10, x11, x12⟩ := box3 X1.out; obtain ⟨x20, x21, x22⟩ := box3 X2.out; obtain ⟨x30, x31, x32⟩ := box3 X3.out)
    | (go_at_call 20; (with_reducible refine (laws_rangeFair.calls K (b2 : Int) (z2 : Int) A2 c2 l2 _ _ (Kd.C_below h2_.out HB.out) n2 R2.out).mono ?_); rintro en wr2 ⟨rfl, hb⟩; have HBn := Aside0.mk (below_then HB.out HB.out.size hb); have HXn := Aside0.mk (blk_below HX.out hb); have X1n := Aside0.mk (blk_below X1.out hb); have X2n := Aside0.mk (blk_below X2.out hb); have X3n := Aside0.mk (blk_below X3.out hb); clear hb HB HX X1 X2 X3; have HB := HBn; have HX := HXn; have X1 := X1n; have X2 := X2n; have X3 := X3n; clear HBn HXn X1n X2n X3n; (try clear hk0 hk1 hk2 hk3 hk4 hk5 x10 x11 x12 x20 x21 x22 x30 x31 x32); obtain ⟨hk0, hk1, hk2, hk3, hk4, hk5⟩ := box6 HX.out; obtain ⟨x10, x11, x12⟩ := box3 X1.out; obtain ⟨x20, x21, x22⟩ := box3 X2.out; obtain ⟨x30, x31, x32⟩ := box3 X3.out)
    | (go_at_call 20; (with_reducible refine (laws_rangeFair.calls K (b3 : Int) (z3 : Int) A3 c3 l3 _ _ (Kd.C_below h3_.out HB.out) n3 R3.out).mono ?_); rintro en wr3 ⟨rfl, hb⟩; have HBn := Aside0.mk (below_then HB.out HB.out.size hb); have HXn := Aside0.mk (blk_below HX.out hb); have X1n := Aside0.mk (blk_below X1.out hb); have X2n := Aside0.mk (blk_below X2.out hb); have X3n := Aside0.mk (blk_below X3.out hb); clear hb HB HX X1 X2 X3; have HB := HBn; have HX := HXn; have X1 := X1n; have X2 := X2n; have X3 := X3n; clear HBn HXn X1n X2n X3n; (try clear hk0 hk1 hk2 hk3 hk4 hk5 x10 x11 x12 x20 x21 x22 x30 x31 x32); obtain ⟨hk0, hk1, hk2, hk3, hk4, hk5⟩ := box6 HX.out; obtain ⟨x10, x11, x12⟩ := box3 X1.out; obtain ⟨x20, x21, x22⟩ := box3 X2.out; obtain ⟨x30, x31, x32⟩ := box3 X3.out))
  go_ret
  exact ⟨rfl, HB.out⟩

set_option maxHeartbeats 2000000 in
set_option maxRecDepth 100000 in
theorem mg7 (K : Nat) (a0 a1 a2 a3 a4 a5 : Int) (b1 z1 b2 z2 b3 z3 : Nat) (A1 : Option Addr) (c1 : Nat) (l1 : List (List Int)) (A2 : Option Addr) (c2 : Nat) (l2 : List (List Int)) (A3 : Option Addr) (c3 : Nat) (l3 : List (List Int)) (w : World) (h1 : CL w A1 l1) (n1 : l1.length ≤ c1) (h2 : CL w A2 l2) (n2 : l2.length ≤ c2) (h3 : CL w A3 l3) (n3 : l3.length ≤ c3) (z1_ : laws_zzFits7.f K (b1 : Int) (z1 : Int) l1 = some true) (z2_ : laws_zzFits7.f K (b2 : Int) (z2 : Int) l2 = some true) (z3_ : laws_zzFits7.f K (b3 : Int) (z3 : Int) l3 = some true) (r1_ : laws_rangeFair.f K (b1 : Int) (z1 : Int) l1 = some true) (r2_ : laws_rangeFair.f K (b2 : Int) (z2 : Int) l2 = some true) (r3_ : laws_rangeFair.f K (b3 : Int) (z3 : Int) l3 = some true) (q1 : (z1 != b2) = true) (q1i : ((z1 : Int) != (b2 : Int)) = true) :
    Calls Tryd.prog 8 #[.agg #[.int .i64 a0, .int .i64 a1, .int .i64 a2, .int .u64 a3, .int .u64 a4, .int .u64 a5], .agg #[.int .u64 (b1 : Nat), .int .u64 (z1 : Nat), .slice A1 l1.length c1], .agg #[.int .u64 (b2 : Nat), .int .u64 (z2 : Nat), .slice A2 l2.length c2], .agg #[.int .u64 (b3 : Nat), .int .u64 (z3 : Nat), .slice A3 l3.length c3]] w fun en w' => en = .returned (.bool true) ∧ Below w.heap.size w w' := by
  have h1_ := Aside0.mk h1
  clear h1
  have h2_ := Aside0.mk h2
  clear h2
  have h3_ := Aside0.mk h3
  clear h3
  have _u := And.intro n1 (And.intro n2 (And.intro n3 (Eq.refl K)))
  clear _u
  obtain ⟨hB0, hX0, hX1, hX2, hX3⟩ := allocs4' w #[.int .i64 a0, .int .i64 a1, .int .i64 a2, .int .u64 a3, .int .u64 a4, .int .u64 a5] 24 #[.int .u64 (b1 : Nat), .int .u64 (z1 : Nat), .slice A1 l1.length c1] 35 #[.int .u64 (b2 : Nat), .int .u64 (z2 : Nat), .slice A2 l2.length c2] 35 #[.int .u64 (b3 : Nat), .int .u64 (z3 : Nat), .slice A3 l3.length c3] 35
  have HB := Aside0.mk hB0
  have HX := Aside0.mk hX0
  have X1 := Aside0.mk hX1
  have X2 := Aside0.mk hX2
  have X3 := Aside0.mk hX3
  clear hB0 hX0 hX1 hX2 hX3
  have Z1 := Aside0.mk z1_
  clear z1_
  have Z2 := Aside0.mk z2_
  clear z2_
  have Z3 := Aside0.mk z3_
  clear z3_
  have R1 := Aside0.mk r1_
  clear r1_
  have R2 := Aside0.mk r2_
  clear r2_
  have R3 := Aside0.mk r3_
  clear r3_
  have _v := And.intro q1 (And.intro q1i (Eq.refl K))
  clear _v
  go_enter Tryd.func8, Tryd.ntmps8
  go_wp2_with fail
  (try generalize ((((w.alloc (.cells #[.int .i64 a0, .int .i64 a1, .int .i64 a2, .int .u64 a3, .int .u64 a4, .int .u64 a5] 24)).alloc (.cells #[.int .u64 (b1 : Nat), .int .u64 (z1 : Nat), .slice A1 l1.length c1] 35)).alloc (.cells #[.int .u64 (b2 : Nat), .int .u64 (z2 : Nat), .slice A2 l2.length c2] 35)).alloc (.cells #[.int .u64 (b3 : Nat), .int .u64 (z3 : Nat), .slice A3 l3.length c3] 35)) = wA at HB HX X1 X2 X3 ⊢)
  (try clear hk0 hk1 hk2 hk3 hk4 hk5 x10 x11 x12 x20 x21 x22 x30 x31 x32)
  obtain ⟨hk0, hk1, hk2, hk3, hk4, hk5⟩ := box6 HX.out
  obtain ⟨x10, x11, x12⟩ := box3 X1.out
  obtain ⟨x20, x21, x22⟩ := box3 X2.out
  obtain ⟨x30, x31, x32⟩ := box3 X3.out
  go_wp2_with (first
    | (go_at_call 19; (with_reducible refine (laws_zzFits7.calls K (b1 : Int) (z1 : Int) A1 c1 l1 _ _ (Kd.C_below h1_.out HB.out) n1 Z1.out).mono ?_); rintro en wz1 ⟨rfl, hb⟩; have HBn := Aside0.mk (below_then HB.out HB.out.size hb); have HXn := Aside0.mk (blk_below HX.out hb); have X1n := Aside0.mk (blk_below X1.out hb); have X2n := Aside0.mk (blk_below X2.out hb); have X3n := Aside0.mk (blk_below X3.out hb); clear hb HB HX X1 X2 X3; have HB := HBn; have HX := HXn; have X1 := X1n; have X2 := X2n; have X3 := X3n; clear HBn HXn X1n X2n X3n; (try clear hk0 hk1 hk2 hk3 hk4 hk5 x10 x11 x12 x20 x21 x22 x30 x31 x32); obtain ⟨hk0, hk1, hk2, hk3, hk4, hk5⟩ := box6 HX.out; obtain ⟨x10, x11, x12⟩ := box3 X1.out; obtain ⟨x20, x21, x22⟩ := box3 X2.out; obtain ⟨x30, x31, x32⟩ := box3 X3.out)
    | (go_at_call 19; (with_reducible refine (laws_zzFits7.calls K (b2 : Int) (z2 : Int) A2 c2 l2 _ _ (Kd.C_below h2_.out HB.out) n2 Z2.out).mono ?_); rintro en wz2 ⟨rfl, hb⟩; have HBn := Aside0.mk (below_then HB.out HB.out.size hb); have HXn := Aside0.mk (blk_below HX.out hb); have X1n := Aside0.mk (blk_below X1.out hb); have X2n := Aside0.mk (blk_below X2.out hb); have X3n := Aside0.mk (blk_below X3.out hb); clear hb HB HX X1 X2 X3; have HB := HBn; have HX := HXn; have X1 := X1n; have X2 := X2n; have X3 := X3n; clear HBn HXn X1n X2n X3n; (try clear hk0 hk1 hk2 hk3 hk4 hk5 x10 x11 x12 x20 x21 x22 x30 x31 x32); obtain ⟨hk0, hk1, hk2, hk3, hk4, hk5⟩ := box6 HX.out; obtain ⟨x10, x11, x12⟩ := box3 X1.out; obtain ⟨x20, x21, x22⟩ := box3 X2.out; obtain ⟨x30, x31, x32⟩ := box3 X3.out)
    | (go_at_call 19; (with_reducible refine (laws_zzFits7.calls K (b3 : Int) (z3 : Int) A3 c3 l3 _ _ (Kd.C_below h3_.out HB.out) n3 Z3.out).mono ?_); rintro en wz3 ⟨rfl, hb⟩; have HBn := Aside0.mk (below_then HB.out HB.out.size hb); have HXn := Aside0.mk (blk_below HX.out hb); have X1n := Aside0.mk (blk_below X1.out hb); have X2n := Aside0.mk (blk_below X2.out hb); have X3n := Aside0.mk (blk_below X3.out hb); clear hb HB HX X1 X2 X3; have HB := HBn; have HX := HXn; have X1 := X1n; have X2 := X2n; have X3 := X3n; clear HBn HXn X1n X2n X3n; (try clear hk0 hk1 hk2 hk3 hk4 hk5 x10 x11 x12 x20 x21 x22 x30 x31 x32); obtain ⟨hk0, hk1, hk2, hk3, hk4, hk5⟩ := box6 HX.out; obtain ⟨x10, x11, x12⟩ := box3 X1.out; obtain ⟨x20, x21, x22⟩ := box3 X2.out; obtain ⟨x30, x31, x32⟩ := box3 X3.out)
    | (go_at_call 20; (with_reducible refine (laws_rangeFair.calls K (b1 : Int) (z1 : Int) A1 c1 l1 _ _ (Kd.C_below h1_.out HB.out) n1 R1.out).mono ?_); rintro en wr1 ⟨rfl, hb⟩; have HBn := Aside0.mk (below_then HB.out HB.out.size hb); have HXn := Aside0.mk (blk_below HX.out hb); have X1n := Aside0.mk (blk_below X1.out hb); have X2n := Aside0.mk (blk_below X2.out hb); have X3n := Aside0.mk (blk_below X3.out hb); clear hb HB HX X1 X2 X3; have HB := HBn; have HX := HXn; have X1 := X1n; have X2 := X2n; have X3 := X3n; clear HBn HXn X1n X2n X3n; (try clear hk0 hk1 hk2 hk3 hk4 hk5 x10 x11 x12 x20 x21 x22 x30 x31 x32); obtain ⟨hk0, hk1, hk2, hk3, hk4, hk5⟩ := box6 HX.out; obtain ⟨x10, x11, x12⟩ := box3 X1.out; obtain ⟨x20, x21, x22⟩ := box3 X2.out; obtain ⟨x30, x31, x32⟩ := box3 X3.out)
    | (go_at_call 20; (with_reducible refine (laws_rangeFair.calls K (b2 : Int) (z2 : Int) A2 c2 l2 _ _ (Kd.C_below h2_.out HB.out) n2 R2.out).mono ?_); rintro en wr2 ⟨rfl, hb⟩; have HBn := Aside0.mk (below_then HB.out HB.out.size hb); have HXn := Aside0.mk (blk_below HX.out hb); have X1n := Aside0.mk (blk_below X1.out hb); have X2n := Aside0.mk (blk_below X2.out hb); have X3n := Aside0.mk (blk_below X3.out hb); clear hb HB HX X1 X2 X3; have HB := HBn; have HX := HXn; have X1 := X1n; have X2 := X2n; have X3 := X3n; clear HBn HXn X1n X2n X3n; (try clear hk0 hk1 hk2 hk3 hk4 hk5 x10 x11 x12 x20 x21 x22 x30 x31 x32); obtain ⟨hk0, hk1, hk2, hk3, hk4, hk5⟩ := box6 HX.out; obtain ⟨x10, x11, x12⟩ := box3 X1.out; obtain ⟨x20, x21, x22⟩ := box3 X2.out; obtain ⟨x30, x31, x32⟩ := box3 X3.out)
    | (go_at_call 20; (with_reducible refine (laws_rangeFair.calls K (b3 : Int) (z3 : Int) A3 c3 l3 _ _ (Kd.C_below h3_.out HB.out) n3 R3.out).mono ?_); rintro en wr3 ⟨rfl, hb⟩; have HBn := Aside0.mk (below_then HB.out HB.out.size hb); have HXn := Aside0.mk (blk_below HX.out hb); have X1n := Aside0.mk (blk_below X1.out hb); have X2n := Aside0.mk (blk_below X2.out hb); have X3n := Aside0.mk (blk_below X3.out hb); clear hb HB HX X1 X2 X3; have HB := HBn; have HX := HXn; have X1 := X1n; have X2 := X2n; have X3 := X3n; clear HBn HXn X1n X2n X3n; (try clear hk0 hk1 hk2 hk3 hk4 hk5 x10 x11 x12 x20 x21 x22 x30 x31 x32); obtain ⟨hk0, hk1, hk2, hk3, hk4, hk5⟩ := box6 HX.out; obtain ⟨x10, x11, x12⟩ := box3 X1.out; obtain ⟨x20, x21, x22⟩ := box3 X2.out; obtain ⟨x30, x31, x32⟩ := box3 X3.out))
  go_ret
  exact ⟨rfl, HB.out⟩

set_option maxHeartbeats 2000000 in
set_option maxRecDepth 100000 in
theorem mg8 (K : Nat) (a0 a1 a2 a3 a4 a5 : Int) (b1 z1 b2 z2 b3 z3 : Nat) (A1 : Option Addr) (c1 : Nat) (l1 : List (List Int)) (A2 : Option Addr) (c2 : Nat) (l2 : List (List Int)) (A3 : Option Addr) (c3 : Nat) (l3 : List (List Int)) (w : World) (h1 : CL w A1 l1) (n1 : l1.length ≤ c1) (h2 : CL w A2 l2) (n2 : l2.length ≤ c2) (h3 : CL w A3 l3) (n3 : l3.length ≤ c3) (z1_ : laws_zzFits7.f K (b1 : Int) (z1 : Int) l1 = some true) (z2_ : laws_zzFits7.f K (b2 : Int) (z2 : Int) l2 = some true) (z3_ : laws_zzFits7.f K (b3 : Int) (z3 : Int) l3 = some true) (r1_ : laws_rangeFair.f K (b1 : Int) (z1 : Int) l1 = some true) (r2_ : laws_rangeFair.f K (b2 : Int) (z2 : Int) l2 = some true) (r3_ : laws_rangeFair.f K (b3 : Int) (z3 : Int) l3 = some true) (q1 : (z1 != b2) = false) (q1i : ((z1 : Int) != (b2 : Int)) = false) (q2 : (z2 != b3) = true) (q2i : ((z2 : Int) != (b3 : Int)) = true) :
    Calls Tryd.prog 8 #[.agg #[.int .i64 a0, .int .i64 a1, .int .i64 a2, .int .u64 a3, .int .u64 a4, .int .u64 a5], .agg #[.int .u64 (b1 : Nat), .int .u64 (z1 : Nat), .slice A1 l1.length c1], .agg #[.int .u64 (b2 : Nat), .int .u64 (z2 : Nat), .slice A2 l2.length c2], .agg #[.int .u64 (b3 : Nat), .int .u64 (z3 : Nat), .slice A3 l3.length c3]] w fun en w' => en = .returned (.bool true) ∧ Below w.heap.size w w' := by
  have h1_ := Aside0.mk h1
  clear h1
  have h2_ := Aside0.mk h2
  clear h2
  have h3_ := Aside0.mk h3
  clear h3
  have _u := And.intro n1 (And.intro n2 (And.intro n3 (Eq.refl K)))
  clear _u
  obtain ⟨hB0, hX0, hX1, hX2, hX3⟩ := allocs4' w #[.int .i64 a0, .int .i64 a1, .int .i64 a2, .int .u64 a3, .int .u64 a4, .int .u64 a5] 24 #[.int .u64 (b1 : Nat), .int .u64 (z1 : Nat), .slice A1 l1.length c1] 35 #[.int .u64 (b2 : Nat), .int .u64 (z2 : Nat), .slice A2 l2.length c2] 35 #[.int .u64 (b3 : Nat), .int .u64 (z3 : Nat), .slice A3 l3.length c3] 35
  have HB := Aside0.mk hB0
  have HX := Aside0.mk hX0
  have X1 := Aside0.mk hX1
  have X2 := Aside0.mk hX2
  have X3 := Aside0.mk hX3
  clear hB0 hX0 hX1 hX2 hX3
  have Z1 := Aside0.mk z1_
  clear z1_
  have Z2 := Aside0.mk z2_
  clear z2_
  have Z3 := Aside0.mk z3_
  clear z3_
  have R1 := Aside0.mk r1_
  clear r1_
  have R2 := Aside0.mk r2_
  clear r2_
  have R3 := Aside0.mk r3_
  clear r3_
  have _v := And.intro q1 (And.intro q1i (And.intro q2 (And.intro q2i (Eq.refl K))))
  clear _v
  go_enter Tryd.func8, Tryd.ntmps8
  go_wp2_with fail
  (try generalize ((((w.alloc (.cells #[.int .i64 a0, .int .i64 a1, .int .i64 a2, .int .u64 a3, .int .u64 a4, .int .u64 a5] 24)).alloc (.cells #[.int .u64 (b1 : Nat), .int .u64 (z1 : Nat), .slice A1 l1.length c1] 35)).alloc (.cells #[.int .u64 (b2 : Nat), .int .u64 (z2 : Nat), .slice A2 l2.length c2] 35)).alloc (.cells #[.int .u64 (b3 : Nat), .int .u64 (z3 : Nat), .slice A3 l3.length c3] 35)) = wA at HB HX X1 X2 X3 ⊢)
  (try clear hk0 hk1 hk2 hk3 hk4 hk5 x10 x11 x12 x20 x21 x22 x30 x31 x32)
  obtain ⟨hk0, hk1, hk2, hk3, hk4, hk5⟩ := box6 HX.out
  obtain ⟨x10, x11, x12⟩ := box3 X1.out
  obtain ⟨x20, x21, x22⟩ := box3 X2.out
  obtain ⟨x30, x31, x32⟩ := box3 X3.out
  go_wp2_with (first
    | (go_at_call 19; (with_reducible refine (laws_zzFits7.calls K (b1 : Int) (z1 : Int) A1 c1 l1 _ _ (Kd.C_below h1_.out HB.out) n1 Z1.out).mono ?_); rintro en wz1 ⟨rfl, hb⟩; have HBn := Aside0.mk (below_then HB.out HB.out.size hb); have HXn := Aside0.mk (blk_below HX.out hb); have X1n := Aside0.mk (blk_below X1.out hb); have X2n := Aside0.mk (blk_below X2.out hb); have X3n := Aside0.mk (blk_below X3.out hb); clear hb HB HX X1 X2 X3; have HB := HBn; have HX := HXn; have X1 := X1n; have X2 := X2n; have X3 := X3n; clear HBn HXn X1n X2n X3n; (try clear hk0 hk1 hk2 hk3 hk4 hk5 x10 x11 x12 x20 x21 x22 x30 x31 x32); obtain ⟨hk0, hk1, hk2, hk3, hk4, hk5⟩ := box6 HX.out; obtain ⟨x10, x11, x12⟩ := box3 X1.out; obtain ⟨x20, x21, x22⟩ := box3 X2.out; obtain ⟨x30, x31, x32⟩ := box3 X3.out)
    | (go_at_call 19; (with_reducible refine (laws_zzFits7.calls K (b2 : Int) (z2 : Int) A2 c2 l2 _ _ (Kd.C_below h2_.out HB.out) n2 Z2.out).mono ?_); rintro en wz2 ⟨rfl, hb⟩; have HBn := Aside0.mk (below_then HB.out HB.out.size hb); have HXn := Aside0.mk (blk_below HX.out hb); have X1n := Aside0.mk (blk_below X1.out hb); have X2n := Aside0.mk (blk_below X2.out hb); have X3n := Aside0.mk (blk_below X3.out hb); clear hb HB HX X1 X2 X3; have HB := HBn; have HX := HXn; have X1 := X1n; have X2 := X2n; have X3 := X3n; clear HBn HXn X1n X2n X3n; (try clear hk0 hk1 hk2 hk3 hk4 hk5 x10 x11 x12 x20 x21 x22 x30 x31 x32); obtain ⟨hk0, hk1, hk2, hk3, hk4, hk5⟩ := box6 HX.out; obtain ⟨x10, x11, x12⟩ := box3 X1.out; obtain ⟨x20, x21, x22⟩ := box3 X2.out; obtain ⟨x30, x31, x32⟩ := box3 X3.out)
    | (go_at_call 19; (with_reducible refine (laws_zzFits7.calls K (b3 : Int) (z3 : Int) A3 c3 l3 _ _ (Kd.C_below h3_.out HB.out) n3 Z3.out).mono ?_); rintro en wz3 ⟨rfl, hb⟩; have HBn := Aside0.mk (below_then HB.out HB.out.size hb); have HXn := Aside0.mk (blk_below HX.out hb); have X1n := Aside0.mk (blk_below X1.out hb); have X2n := Aside0.mk (blk_below X2.out hb); have X3n := Aside0.mk (blk_below X3.out hb); clear hb HB HX X1 X2 X3; have HB := HBn; have HX := HXn; have X1 := X1n; have X2 := X2n; have X3 := X3n; clear HBn HXn X1n X2n X3n; (try clear hk0 hk1 hk2 hk3 hk4 hk5 x10 x11 x12 x20 x21 x22 x30 x31 x32); obtain ⟨hk0, hk1, hk2, hk3, hk4, hk5⟩ := box6 HX.out; obtain ⟨x10, x11, x12⟩ := box3 X1.out; obtain ⟨x20, x21, x22⟩ := box3 X2.out; obtain ⟨x30, x31, x32⟩ := box3 X3.out)
    | (go_at_call 20; (with_reducible refine (laws_rangeFair.calls K (b1 : Int) (z1 : Int) A1 c1 l1 _ _ (Kd.C_below h1_.out HB.out) n1 R1.out).mono ?_); rintro en wr1 ⟨rfl, hb⟩; have HBn := Aside0.mk (below_then HB.out HB.out.size hb); have HXn := Aside0.mk (blk_below HX.out hb); have X1n := Aside0.mk (blk_below X1.out hb); have X2n := Aside0.mk (blk_below X2.out hb); have X3n := Aside0.mk (blk_below X3.out hb); clear hb HB HX X1 X2 X3; have HB := HBn; have HX := HXn; have X1 := X1n; have X2 := X2n; have X3 := X3n; clear HBn HXn X1n X2n X3n; (try clear hk0 hk1 hk2 hk3 hk4 hk5 x10 x11 x12 x20 x21 x22 x30 x31 x32); obtain ⟨hk0, hk1, hk2, hk3, hk4, hk5⟩ := box6 HX.out; obtain ⟨x10, x11, x12⟩ := box3 X1.out; obtain ⟨x20, x21, x22⟩ := box3 X2.out; obtain ⟨x30, x31, x32⟩ := box3 X3.out)
    | (go_at_call 20; (with_reducible refine (laws_rangeFair.calls K (b2 : Int) (z2 : Int) A2 c2 l2 _ _ (Kd.C_below h2_.out HB.out) n2 R2.out).mono ?_); rintro en wr2 ⟨rfl, hb⟩; have HBn := Aside0.mk (below_then HB.out HB.out.size hb); have HXn := Aside0.mk (blk_below HX.out hb); have X1n := Aside0.mk (blk_below X1.out hb); have X2n := Aside0.mk (blk_below X2.out hb); have X3n := Aside0.mk (blk_below X3.out hb); clear hb HB HX X1 X2 X3; have HB := HBn; have HX := HXn; have X1 := X1n; have X2 := X2n; have X3 := X3n; clear HBn HXn X1n X2n X3n; (try clear hk0 hk1 hk2 hk3 hk4 hk5 x10 x11 x12 x20 x21 x22 x30 x31 x32); obtain ⟨hk0, hk1, hk2, hk3, hk4, hk5⟩ := box6 HX.out; obtain ⟨x10, x11, x12⟩ := box3 X1.out; obtain ⟨x20, x21, x22⟩ := box3 X2.out; obtain ⟨x30, x31, x32⟩ := box3 X3.out)
    | (go_at_call 20; (with_reducible refine (laws_rangeFair.calls K (b3 : Int) (z3 : Int) A3 c3 l3 _ _ (Kd.C_below h3_.out HB.out) n3 R3.out).mono ?_); rintro en wr3 ⟨rfl, hb⟩; have HBn := Aside0.mk (below_then HB.out HB.out.size hb); have HXn := Aside0.mk (blk_below HX.out hb); have X1n := Aside0.mk (blk_below X1.out hb); have X2n := Aside0.mk (blk_below X2.out hb); have X3n := Aside0.mk (blk_below X3.out hb); clear hb HB HX X1 X2 X3; have HB := HBn; have HX := HXn; have X1 := X1n; have X2 := X2n; have X3 := X3n; clear HBn HXn X1n X2n X3n; (try clear hk0 hk1 hk2 hk3 hk4 hk5 x10 x11 x12 x20 x21 x22 x30 x31 x32); obtain ⟨hk0, hk1, hk2, hk3, hk4, hk5⟩ := box6 HX.out; obtain ⟨x10, x11, x12⟩ := box3 X1.out; obtain ⟨x20, x21, x22⟩ := box3 X2.out; obtain ⟨x30, x31, x32⟩ := box3 X3.out))
  go_ret
  exact ⟨rfl, HB.out⟩

set_option maxHeartbeats 2000000 in
set_option maxRecDepth 100000 in
theorem mg9 (K : Nat) (a0 a1 a2 a3 a4 a5 : Int) (b1 z1 b2 z2 b3 z3 : Nat) (A1 : Option Addr) (c1 : Nat) (l1 : List (List Int)) (A2 : Option Addr) (c2 : Nat) (l2 : List (List Int)) (A3 : Option Addr) (c3 : Nat) (l3 : List (List Int)) (w : World) (h1 : CL w A1 l1) (n1 : l1.length ≤ c1) (h2 : CL w A2 l2) (n2 : l2.length ≤ c2) (h3 : CL w A3 l3) (n3 : l3.length ≤ c3) (z1_ : laws_zzFits7.f K (b1 : Int) (z1 : Int) l1 = some true) (z2_ : laws_zzFits7.f K (b2 : Int) (z2 : Int) l2 = some true) (z3_ : laws_zzFits7.f K (b3 : Int) (z3 : Int) l3 = some true) (r1_ : laws_rangeFair.f K (b1 : Int) (z1 : Int) l1 = some true) (r2_ : laws_rangeFair.f K (b2 : Int) (z2 : Int) l2 = some true) (r3_ : laws_rangeFair.f K (b3 : Int) (z3 : Int) l3 = some true) (q1 : (z1 != b2) = false) (q1i : ((z1 : Int) != (b2 : Int)) = false) (q2 : (z2 != b3) = false) (q2i : ((z2 : Int) != (b3 : Int)) = false) (q3 : (z1 == 0) = true) (q3i : ((z1 : Int) == 0) = true) (q4 : (z3 == 18446744073709551615) = true) (q4i : ((z3 : Int) == 18446744073709551615) = true) :
    Calls Tryd.prog 8 #[.agg #[.int .i64 a0, .int .i64 a1, .int .i64 a2, .int .u64 a3, .int .u64 a4, .int .u64 a5], .agg #[.int .u64 (b1 : Nat), .int .u64 (z1 : Nat), .slice A1 l1.length c1], .agg #[.int .u64 (b2 : Nat), .int .u64 (z2 : Nat), .slice A2 l2.length c2], .agg #[.int .u64 (b3 : Nat), .int .u64 (z3 : Nat), .slice A3 l3.length c3]] w fun en w' => en = .returned (.bool true) ∧ Below w.heap.size w w' := by
  have h1_ := Aside0.mk h1
  clear h1
  have h2_ := Aside0.mk h2
  clear h2
  have h3_ := Aside0.mk h3
  clear h3
  have _u := And.intro n1 (And.intro n2 (And.intro n3 (Eq.refl K)))
  clear _u
  obtain ⟨hB0, hX0, hX1, hX2, hX3⟩ := allocs4' w #[.int .i64 a0, .int .i64 a1, .int .i64 a2, .int .u64 a3, .int .u64 a4, .int .u64 a5] 24 #[.int .u64 (b1 : Nat), .int .u64 (z1 : Nat), .slice A1 l1.length c1] 35 #[.int .u64 (b2 : Nat), .int .u64 (z2 : Nat), .slice A2 l2.length c2] 35 #[.int .u64 (b3 : Nat), .int .u64 (z3 : Nat), .slice A3 l3.length c3] 35
  have HB := Aside0.mk hB0
  have HX := Aside0.mk hX0
  have X1 := Aside0.mk hX1
  have X2 := Aside0.mk hX2
  have X3 := Aside0.mk hX3
  clear hB0 hX0 hX1 hX2 hX3
  have Z1 := Aside0.mk z1_
  clear z1_
  have Z2 := Aside0.mk z2_
  clear z2_
  have Z3 := Aside0.mk z3_
  clear z3_
  have R1 := Aside0.mk r1_
  clear r1_
  have R2 := Aside0.mk r2_
  clear r2_
  have R3 := Aside0.mk r3_
  clear r3_
  have _v := And.intro q1 (And.intro q1i (And.intro q2 (And.intro q2i (And.intro q3 (And.intro q3i (And.intro q4 (And.intro q4i (Eq.refl K))))))))
  clear _v
  go_enter Tryd.func8, Tryd.ntmps8
  go_wp2_with fail
  (try generalize ((((w.alloc (.cells #[.int .i64 a0, .int .i64 a1, .int .i64 a2, .int .u64 a3, .int .u64 a4, .int .u64 a5] 24)).alloc (.cells #[.int .u64 (b1 : Nat), .int .u64 (z1 : Nat), .slice A1 l1.length c1] 35)).alloc (.cells #[.int .u64 (b2 : Nat), .int .u64 (z2 : Nat), .slice A2 l2.length c2] 35)).alloc (.cells #[.int .u64 (b3 : Nat), .int .u64 (z3 : Nat), .slice A3 l3.length c3] 35)) = wA at HB HX X1 X2 X3 ⊢)
  (try clear hk0 hk1 hk2 hk3 hk4 hk5 x10 x11 x12 x20 x21 x22 x30 x31 x32)
  obtain ⟨hk0, hk1, hk2, hk3, hk4, hk5⟩ := box6 HX.out
  obtain ⟨x10, x11, x12⟩ := box3 X1.out
  obtain ⟨x20, x21, x22⟩ := box3 X2.out
  obtain ⟨x30, x31, x32⟩ := box3 X3.out
  go_wp2_with (first
    | (go_at_call 19; (with_reducible refine (laws_zzFits7.calls K (b1 : Int) (z1 : Int) A1 c1 l1 _ _ (Kd.C_below h1_.out HB.out) n1 Z1.out).mono ?_); rintro en wz1 ⟨rfl, hb⟩; have HBn := Aside0.mk (below_then HB.out HB.out.size hb); have HXn := Aside0.mk (blk_below HX.out hb); have X1n := Aside0.mk (blk_below X1.out hb); have X2n := Aside0.mk (blk_below X2.out hb); have X3n := Aside0.mk (blk_below X3.out hb); clear hb HB HX X1 X2 X3; have HB := HBn; have HX := HXn; have X1 := X1n; have X2 := X2n; have X3 := X3n; clear HBn HXn X1n X2n X3n; (try clear hk0 hk1 hk2 hk3 hk4 hk5 x10 x11 x12 x20 x21 x22 x30 x31 x32); obtain ⟨hk0, hk1, hk2, hk3, hk4, hk5⟩ := box6 HX.out; obtain ⟨x10, x11, x12⟩ := box3 X1.out; obtain ⟨x20, x21, x22⟩ := box3 X2.out; obtain ⟨x30, x31, x32⟩ := box3 X3.out)
    | (go_at_call 19; (with_reducible refine (laws_zzFits7.calls K (b2 : Int) (z2 : Int) A2 c2 l2 _ _ (Kd.C_below h2_.out HB.out) n2 Z2.out).mono ?_); rintro en wz2 ⟨rfl, hb⟩; have HBn := Aside0.mk (below_then HB.out HB.out.size hb); have HXn := Aside0.mk (blk_below HX.out hb); have X1n := Aside0.mk (blk_below X1.out hb); have X2n := Aside0.mk (blk_below X2.out hb); have X3n := Aside0.mk (blk_below X3.out hb); clear hb HB HX X1 X2 X3; have HB := HBn; have HX := HXn; have X1 := X1n; have X2 := X2n; have X3 := X3n; clear HBn HXn X1n X2n X3n; (try clear hk0 hk1 hk2 hk3 hk4 hk5 x10 x11 x12 x20 x21 x22 x30 x31 x32); obtain ⟨hk0, hk1, hk2, hk3, hk4, hk5⟩ := box6 HX.out; obtain ⟨x10, x11, x12⟩ := box3 X1.out; obtain ⟨x20, x21, x22⟩ := box3 X2.out; obtain ⟨x30, x31, x32⟩ := box3 X3.out)
    | (go_at_call 19; (with_reducible refine (laws_zzFits7.calls K (b3 : Int) (z3 : Int) A3 c3 l3 _ _ (Kd.C_below h3_.out HB.out) n3 Z3.out).mono ?_); rintro en wz3 ⟨rfl, hb⟩; have HBn := Aside0.mk (below_then HB.out HB.out.size hb); have HXn := Aside0.mk (blk_below HX.out hb); have X1n := Aside0.mk (blk_below X1.out hb); have X2n := Aside0.mk (blk_below X2.out hb); have X3n := Aside0.mk (blk_below X3.out hb); clear hb HB HX X1 X2 X3; have HB := HBn; have HX := HXn; have X1 := X1n; have X2 := X2n; have X3 := X3n; clear HBn HXn X1n X2n X3n; (try clear hk0 hk1 hk2 hk3 hk4 hk5 x10 x11 x12 x20 x21 x22 x30 x31 x32); obtain ⟨hk0, hk1, hk2, hk3, hk4, hk5⟩ := box6 HX.out; obtain ⟨x10, x11, x12⟩ := box3 X1.out; obtain ⟨x20, x21, x22⟩ := box3 X2.out; obtain ⟨x30, x31, x32⟩ := box3 X3.out)
    | (go_at_call 20; (with_reducible refine (laws_rangeFair.calls K (b1 : Int) (z1 : Int) A1 c1 l1 _ _ (Kd.C_below h1_.out HB.out) n1 R1.out).mono ?_); rintro en wr1 ⟨rfl, hb⟩; have HBn := Aside0.mk (below_then HB.out HB.out.size hb); have HXn := Aside0.mk (blk_below HX.out hb); have X1n := Aside0.mk (blk_below X1.out hb); have X2n := Aside0.mk (blk_below X2.out hb); have X3n := Aside0.mk (blk_below X3.out hb); clear hb HB HX X1 X2 X3; have HB := HBn; have HX := HXn; have X1 := X1n; have X2 := X2n; have X3 := X3n; clear HBn HXn X1n X2n X3n; (try clear hk0 hk1 hk2 hk3 hk4 hk5 x10 x11 x12 x20 x21 x22 x30 x31 x32); obtain ⟨hk0, hk1, hk2, hk3, hk4, hk5⟩ := box6 HX.out; obtain ⟨x10, x11, x12⟩ := box3 X1.out; obtain ⟨x20, x21, x22⟩ := box3 X2.out; obtain ⟨x30, x31, x32⟩ := box3 X3.out)
    | (go_at_call 20; (with_reducible refine (laws_rangeFair.calls K (b2 : Int) (z2 : Int) A2 c2 l2 _ _ (Kd.C_below h2_.out HB.out) n2 R2.out).mono ?_); rintro en wr2 ⟨rfl, hb⟩; have HBn := Aside0.mk (below_then HB.out HB.out.size hb); have HXn := Aside0.mk (blk_below HX.out hb); have X1n := Aside0.mk (blk_below X1.out hb); have X2n := Aside0.mk (blk_below X2.out hb); have X3n := Aside0.mk (blk_below X3.out hb); clear hb HB HX X1 X2 X3; have HB := HBn; have HX := HXn; have X1 := X1n; have X2 := X2n; have X3 := X3n; clear HBn HXn X1n X2n X3n; (try clear hk0 hk1 hk2 hk3 hk4 hk5 x10 x11 x12 x20 x21 x22 x30 x31 x32); obtain ⟨hk0, hk1, hk2, hk3, hk4, hk5⟩ := box6 HX.out; obtain ⟨x10, x11, x12⟩ := box3 X1.out; obtain ⟨x20, x21, x22⟩ := box3 X2.out; obtain ⟨x30, x31, x32⟩ := box3 X3.out)
    | (go_at_call 20; (with_reducible refine (laws_rangeFair.calls K (b3 : Int) (z3 : Int) A3 c3 l3 _ _ (Kd.C_below h3_.out HB.out) n3 R3.out).mono ?_); rintro en wr3 ⟨rfl, hb⟩; have HBn := Aside0.mk (below_then HB.out HB.out.size hb); have HXn := Aside0.mk (blk_below HX.out hb); have X1n := Aside0.mk (blk_below X1.out hb); have X2n := Aside0.mk (blk_below X2.out hb); have X3n := Aside0.mk (blk_below X3.out hb); clear hb HB HX X1 X2 X3; have HB := HBn; have HX := HXn; have X1 := X1n; have X2 := X2n; have X3 := X3n; clear HBn HXn X1n X2n X3n; (try clear hk0 hk1 hk2 hk3 hk4 hk5 x10 x11 x12 x20 x21 x22 x30 x31 x32); obtain ⟨hk0, hk1, hk2, hk3, hk4, hk5⟩ := box6 HX.out; obtain ⟨x10, x11, x12⟩ := box3 X1.out; obtain ⟨x20, x21, x22⟩ := box3 X2.out; obtain ⟨x30, x31, x32⟩ := box3 X3.out))
  go_ret
  exact ⟨rfl, HB.out⟩

set_option maxHeartbeats 8000000 in
set_option maxRecDepth 100000 in
theorem mg10 (K : Nat) (a0 a1 a2 a3 a4 a5 : Int) (p0 p1 p2 p3 : Nat) (A1 : Option Addr) (c1 : Nat) (l1 : List (List Int)) (A2 : Option Addr) (c2 : Nat) (l2 : List (List Int)) (A3 : Option Addr) (c3 : Nat) (l3 : List (List Int)) (w : World) (h1 : CL w A1 l1) (n1 : l1.length ≤ c1) (h2 : CL w A2 l2) (n2 : l2.length ≤ c2) (h3 : CL w A3 l3) (n3 : l3.length ≤ c3) (z1_ : laws_zzFits7.f K (p0 : Int) (p1 : Int) l1 = some true) (z2_ : laws_zzFits7.f K (p1 : Int) (p2 : Int) l2 = some true) (z3_ : laws_zzFits7.f K (p2 : Int) (p3 : Int) l3 = some true) (r1_ : laws_rangeFair.f K (p0 : Int) (p1 : Int) l1 = some true) (r2_ : laws_rangeFair.f K (p1 : Int) (p2 : Int) l2 = some true) (r3_ : laws_rangeFair.f K (p2 : Int) (p3 : Int) l3 = some true) (q3 : (p1 == 0) = false) (q3i : ((p1 : Int) == 0) = false) (HG_ : Glob w) (k : Nat) (lab labc lbc : List (List Int)) (o1 : ArOk a0 a1 a2 a3 a4 a5 p0 p1 p2 l1 l2 lab k) (o2 : ArOk a0 a1 a2 a3 a4 a5 p0 p2 p3 lab l3 labc k) (o3 : ArOk a0 a1 a2 a3 a4 a5 p1 p2 p3 l2 l3 lbc k) (o4 : ArOk a0 a1 a2 a3 a4 a5 p0 p1 p3 l1 lbc labc k) (sr : spec_SameRange.f (p0 : Int) (p3 : Int) labc (p0 : Int) (p3 : Int) labc = some true) (q5 : (IntKind.u64.wrap ((p3 : Int) - (p2 : Int)) != 1) = true) :
    Calls Tryd.prog 8 #[.agg #[.int .i64 a0, .int .i64 a1, .int .i64 a2, .int .u64 a3, .int .u64 a4, .int .u64 a5], .agg #[.int .u64 (p0 : Nat), .int .u64 (p1 : Nat), .slice A1 l1.length c1], .agg #[.int .u64 (p1 : Nat), .int .u64 (p2 : Nat), .slice A2 l2.length c2], .agg #[.int .u64 (p2 : Nat), .int .u64 (p3 : Nat), .slice A3 l3.length c3]] w fun en w' => en = .returned (.bool true) ∧ Below w.heap.size w w' := by
  have h1_ := Aside0.mk h1
  clear h1
  have h2_ := Aside0.mk h2
  clear h2
  have h3_ := Aside0.mk h3
  clear h3
  have _u := And.intro n1 (And.intro n2 (And.intro n3 (Eq.refl K)))
  clear _u
  obtain ⟨hB0, hX0, hX1, hX2, hX3⟩ := allocs4' w #[.int .i64 a0, .int .i64 a1, .int .i64 a2, .int .u64 a3, .int .u64 a4, .int .u64 a5] 24 #[.int .u64 (p0 : Nat), .int .u64 (p1 : Nat), .slice A1 l1.length c1] 35 #[.int .u64 (p1 : Nat), .int .u64 (p2 : Nat), .slice A2 l2.length c2] 35 #[.int .u64 (p2 : Nat), .int .u64 (p3 : Nat), .slice A3 l3.length c3] 35
  have HB := Aside0.mk hB0
  have HX := Aside0.mk hX0
  have X1 := Aside0.mk hX1
  have X2 := Aside0.mk hX2
  have X3 := Aside0.mk hX3
  clear hB0 hX0 hX1 hX2 hX3
  have Z1 := Aside0.mk z1_
  clear z1_
  have Z2 := Aside0.mk z2_
  clear z2_
  have Z3 := Aside0.mk z3_
  clear z3_
  have R1 := Aside0.mk r1_
  clear r1_
  have R2 := Aside0.mk r2_
  clear r2_
  have R3 := Aside0.mk r3_
  clear r3_
  have HG := Aside0.mk HG_
  clear HG_
  have O1 := Aside0.mk o1
  clear o1
  have O2 := Aside0.mk o2
  clear o2
  have O3 := Aside0.mk o3
  clear o3
  have O4 := Aside0.mk o4
  clear o4
  have SR := Aside0.mk sr
  clear sr
  have _v := And.intro q3 (And.intro q3i (Eq.refl K))
  clear _v
  go_enter Tryd.func8, Tryd.ntmps8
  go_wp2_with fail
  (try generalize ((((w.alloc (.cells #[.int .i64 a0, .int .i64 a1, .int .i64 a2, .int .u64 a3, .int .u64 a4, .int .u64 a5] 24)).alloc (.cells #[.int .u64 (p0 : Nat), .int .u64 (p1 : Nat), .slice A1 l1.length c1] 35)).alloc (.cells #[.int .u64 (p1 : Nat), .int .u64 (p2 : Nat), .slice A2 l2.length c2] 35)).alloc (.cells #[.int .u64 (p2 : Nat), .int .u64 (p3 : Nat), .slice A3 l3.length c3] 35)) = wA at HB HX X1 X2 X3 ⊢)
  (try clear hk0 hk1 hk2 hk3 hk4 hk5 x10 x11 x12 x20 x21 x22 x30 x31 x32)
  obtain ⟨hk0, hk1, hk2, hk3, hk4, hk5⟩ := box6 HX.out
  obtain ⟨x10, x11, x12⟩ := box3 X1.out
  obtain ⟨x20, x21, x22⟩ := box3 X2.out
  obtain ⟨x30, x31, x32⟩ := box3 X3.out
  go_wp2_with (first
    | (go_at_call 19; (with_reducible refine (laws_zzFits7.calls K (p0 : Int) (p1 : Int) A1 c1 l1 _ _ (Kd.C_below h1_.out HB.out) n1 Z1.out).mono ?_); rintro en wz1 ⟨rfl, hb⟩; have HBn := Aside0.mk (below_then HB.out HB.out.size hb); have HXn := Aside0.mk (blk_below HX.out hb); have X1n := Aside0.mk (blk_below X1.out hb); have X2n := Aside0.mk (blk_below X2.out hb); have X3n := Aside0.mk (blk_below X3.out hb); clear hb HB HX X1 X2 X3; have HB := HBn; have HX := HXn; have X1 := X1n; have X2 := X2n; have X3 := X3n; clear HBn HXn X1n X2n X3n; (try clear hk0 hk1 hk2 hk3 hk4 hk5 x10 x11 x12 x20 x21 x22 x30 x31 x32); obtain ⟨hk0, hk1, hk2, hk3, hk4, hk5⟩ := box6 HX.out; obtain ⟨x10, x11, x12⟩ := box3 X1.out; obtain ⟨x20, x21, x22⟩ := box3 X2.out; obtain ⟨x30, x31, x32⟩ := box3 X3.out)
    | (go_at_call 19; (with_reducible refine (laws_zzFits7.calls K (p1 : Int) (p2 : Int) A2 c2 l2 _ _ (Kd.C_below h2_.out HB.out) n2 Z2.out).mono ?_); rintro en wz2 ⟨rfl, hb⟩; have HBn := Aside0.mk (below_then HB.out HB.out.size hb); have HXn := Aside0.mk (blk_below HX.out hb); have X1n := Aside0.mk (blk_below X1.out hb); have X2n := Aside0.mk (blk_below X2.out hb); have X3n := Aside0.mk (blk_below X3.out hb); clear hb HB HX X1 X2 X3; have HB := HBn; have HX := HXn; have X1 := X1n; have X2 := X2n; have X3 := X3n; clear HBn HXn X1n X2n X3n; (try clear hk0 hk1 hk2 hk3 hk4 hk5 x10 x11 x12 x20 x21 x22 x30 x31 x32); obtain ⟨hk0, hk1, hk2, hk3, hk4, hk5⟩ := box6 HX.out; obtain ⟨x10, x11, x12⟩ := box3 X1.out; obtain ⟨x20, x21, x22⟩ := box3 X2.out; obtain ⟨x30, x31, x32⟩ := box3 X3.out)
    | (go_at_call 19; (with_reducible refine (laws_zzFits7.calls K (p2 : Int) (p3 : Int) A3 c3 l3 _ _ (Kd.C_below h3_.out HB.out) n3 Z3.out).mono ?_); rintro en wz3 ⟨rfl, hb⟩; have HBn := Aside0.mk (below_then HB.out HB.out.size hb); have HXn := Aside0.mk (blk_below HX.out hb); have X1n := Aside0.mk (blk_below X1.out hb); have X2n := Aside0.mk (blk_below X2.out hb); have X3n := Aside0.mk (blk_below X3.out hb); clear hb HB HX X1 X2 X3; have HB := HBn; have HX := HXn; have X1 := X1n; have X2 := X2n; have X3 := X3n; clear HBn HXn X1n X2n X3n; (try clear hk0 hk1 hk2 hk3 hk4 hk5 x10 x11 x12 x20 x21 x22 x30 x31 x32); obtain ⟨hk0, hk1, hk2, hk3, hk4, hk5⟩ := box6 HX.out; obtain ⟨x10, x11, x12⟩ := box3 X1.out; obtain ⟨x20, x21, x22⟩ := box3 X2.out; obtain ⟨x30, x31, x32⟩ := box3 X3.out)
    | (go_at_call 20; (with_reducible refine (laws_rangeFair.calls K (p0 : Int) (p1 : Int) A1 c1 l1 _ _ (Kd.C_below h1_.out HB.out) n1 R1.out).mono ?_); rintro en wr1 ⟨rfl, hb⟩; have HBn := Aside0.mk (below_then HB.out HB.out.size hb); have HXn := Aside0.mk (blk_below HX.out hb); have X1n := Aside0.mk (blk_below X1.out hb); have X2n := Aside0.mk (blk_below X2.out hb); have X3n := Aside0.mk (blk_below X3.out hb); clear hb HB HX X1 X2 X3; have HB := HBn; have HX := HXn; have X1 := X1n; have X2 := X2n; have X3 := X3n; clear HBn HXn X1n X2n X3n; (try clear hk0 hk1 hk2 hk3 hk4 hk5 x10 x11 x12 x20 x21 x22 x30 x31 x32); obtain ⟨hk0, hk1, hk2, hk3, hk4, hk5⟩ := box6 HX.out; obtain ⟨x10, x11, x12⟩ := box3 X1.out; obtain ⟨x20, x21, x22⟩ := box3 X2.out; obtain ⟨x30, x31, x32⟩ := box3 X3.out)
    | (go_at_call 20; (with_reducible refine (laws_rangeFair.calls K (p1 : Int) (p2 : Int) A2 c2 l2 _ _ (Kd.C_below h2_.out HB.out) n2 R2.out).mono ?_); rintro en wr2 ⟨rfl, hb⟩; have HBn := Aside0.mk (below_then HB.out HB.out.size hb); have HXn := Aside0.mk (blk_below HX.out hb); have X1n := Aside0.mk (blk_below X1.out hb); have X2n := Aside0.mk (blk_below X2.out hb); have X3n := Aside0.mk (blk_below X3.out hb); clear hb HB HX X1 X2 X3; have HB := HBn; have HX := HXn; have X1 := X1n; have X2 := X2n; have X3 := X3n; clear HBn HXn X1n X2n X3n; (try clear hk0 hk1 hk2 hk3 hk4 hk5 x10 x11 x12 x20 x21 x22 x30 x31 x32); obtain ⟨hk0, hk1, hk2, hk3, hk4, hk5⟩ := box6 HX.out; obtain ⟨x10, x11, x12⟩ := box3 X1.out; obtain ⟨x20, x21, x22⟩ := box3 X2.out; obtain ⟨x30, x31, x32⟩ := box3 X3.out)
    | (go_at_call 20; (with_reducible refine (laws_rangeFair.calls K (p2 : Int) (p3 : Int) A3 c3 l3 _ _ (Kd.C_below h3_.out HB.out) n3 R3.out).mono ?_); rintro en wr3 ⟨rfl, hb⟩; have HBn := Aside0.mk (below_then HB.out HB.out.size hb); have HXn := Aside0.mk (blk_below HX.out hb); have X1n := Aside0.mk (blk_below X1.out hb); have X2n := Aside0.mk (blk_below X2.out hb); have X3n := Aside0.mk (blk_below X3.out hb); clear hb HB HX X1 X2 X3; have HB := HBn; have HX := HXn; have X1 := X1n; have X2 := X2n; have X3 := X3n; clear HBn HXn X1n X2n X3n; (try clear hk0 hk1 hk2 hk3 hk4 hk5 x10 x11 x12 x20 x21 x22 x30 x31 x32); obtain ⟨hk0, hk1, hk2, hk3, hk4, hk5⟩ := box6 HX.out; obtain ⟨x10, x11, x12⟩ := box3 X1.out; obtain ⟨x20, x21, x22⟩ := box3 X2.out; obtain ⟨x30, x31, x32⟩ := box3 X3.out))
  go_wp2_with (first
    | (go_at_call 33; (with_reducible refine (O1.out.calls (Kd.C_below h1_.out HB.out) n1 (Kd.C_below h2_.out HB.out) n2 (Glob.below HG.out HB.out)).mono ?_); rintro en u1 ⟨B1, d1, vs1, rfl, hd, hC, hb⟩; have D1 := Aside0.mk hd; have C1z := Aside0.mk hC; clear hd hC; have HBn := Aside0.mk (below_then HB.out HB.out.size hb); have HXn := Aside0.mk (blk_below HX.out hb); have X1n := Aside0.mk (blk_below X1.out hb); have X2n := Aside0.mk (blk_below X2.out hb); have X3n := Aside0.mk (blk_below X3.out hb); clear hb HB HX X1 X2 X3; have HB := HBn; have HX := HXn; have X1 := X1n; have X2 := X2n; have X3 := X3n; clear HBn HXn X1n X2n X3n; (try clear hk0 hk1 hk2 hk3 hk4 hk5 x10 x11 x12 x20 x21 x22 x30 x31 x32); obtain ⟨hk0, hk1, hk2, hk3, hk4, hk5⟩ := box6 HX.out; obtain ⟨x10, x11, x12⟩ := box3 X1.out; obtain ⟨x20, x21, x22⟩ := box3 X2.out; obtain ⟨x30, x31, x32⟩ := box3 X3.out; have hltHX := lt_of_block HX.out; have hltX1 := lt_of_block X1.out; have hltX2 := lt_of_block X2.out; have hltX3 := lt_of_block X3.out))
  have hS : (u1.alloc (.cells #[.int .u64 (p0 : Nat), .int .u64 (p2 : Nat), (.slice B1 lab.length d1)] 35)).heap[u1.heap.size]? = some (.cells #[.int .u64 (p0 : Nat), .int .u64 (p2 : Nat), (.slice B1 lab.length d1)] 35 (0, 0)) := heap_alloc_new _ _
  have hb : Below u1.heap.size u1 (u1.alloc (.cells #[.int .u64 (p0 : Nat), .int .u64 (p2 : Nat), (.slice B1 lab.length d1)] 35)) := below_alloc (Below.refl _ _) _
  generalize hgs : u1.heap.size = g1 at hS ⊢
  generalize (u1.alloc (.cells #[.int .u64 (p0 : Nat), .int .u64 (p2 : Nat), (.slice B1 lab.length d1)] 35)) = v1 at hS hb ⊢
  have C1 := Aside0.mk (Kd.C_below C1z.out hb)
  have G1 : Aside0 (v1.heap[g1]? = some (.cells #[.int .u64 (p0 : Nat), .int .u64 (p2 : Nat), (.slice B1 lab.length d1)] 35 (0, 0))) := ⟨hS⟩
  clear hS C1z
  clear hltHX hltX1 hltX2 hltX3
  have HBn := Aside0.mk (below_then HB.out HB.out.size hb)
  have HXn := Aside0.mk (blk_below HX.out hb)
  have X1n := Aside0.mk (blk_below X1.out hb)
  have X2n := Aside0.mk (blk_below X2.out hb)
  have X3n := Aside0.mk (blk_below X3.out hb)
  clear hb HB HX X1 X2 X3
  have HB := HBn
  have HX := HXn
  have X1 := X1n
  have X2 := X2n
  have X3 := X3n
  clear HBn HXn X1n X2n X3n
  (try clear hk0 hk1 hk2 hk3 hk4 hk5 x10 x11 x12 x20 x21 x22 x30 x31 x32)
  obtain ⟨hk0, hk1, hk2, hk3, hk4, hk5⟩ := box6 HX.out
  obtain ⟨x10, x11, x12⟩ := box3 X1.out
  obtain ⟨x20, x21, x22⟩ := box3 X2.out
  obtain ⟨x30, x31, x32⟩ := box3 X3.out
  obtain ⟨y10, y11, y12⟩ := box3 G1.out
  go_wp2_with (first
    | (go_at_call 33; (with_reducible refine (O2.out.calls C1.out D1.out (Kd.C_below h3_.out HB.out) n3 (Glob.below HG.out HB.out)).mono ?_); rintro en u2 ⟨B2, d2, vs2, rfl, hd, hC, hb⟩; have D2 := Aside0.mk hd; have C2z := Aside0.mk hC; clear hd hC; have HBn := Aside0.mk (below_then HB.out HB.out.size hb); have HXn := Aside0.mk (blk_below HX.out hb); have X1n := Aside0.mk (blk_below X1.out hb); have X2n := Aside0.mk (blk_below X2.out hb); have X3n := Aside0.mk (blk_below X3.out hb); have G1n := Aside0.mk (blk_below G1.out hb); have C1n := Aside0.mk (Kd.C_below C1.out hb); clear hb HB HX X1 X2 X3 G1 C1; have HB := HBn; have HX := HXn; have X1 := X1n; have X2 := X2n; have X3 := X3n; have G1 := G1n; have C1 := C1n; clear HBn HXn X1n X2n X3n G1n C1n; (try clear hk0 hk1 hk2 hk3 hk4 hk5 x10 x11 x12 x20 x21 x22 x30 x31 x32); obtain ⟨hk0, hk1, hk2, hk3, hk4, hk5⟩ := box6 HX.out; obtain ⟨x10, x11, x12⟩ := box3 X1.out; obtain ⟨x20, x21, x22⟩ := box3 X2.out; obtain ⟨x30, x31, x32⟩ := box3 X3.out; (try clear y10 y11 y12); obtain ⟨y10, y11, y12⟩ := box3 G1.out; have hltHX := lt_of_block HX.out; have hltX1 := lt_of_block X1.out; have hltX2 := lt_of_block X2.out; have hltX3 := lt_of_block X3.out; have hltG1 := lt_of_block G1.out))
  have hS : (u2.alloc (.cells #[.int .u64 (p0 : Nat), .int .u64 (p3 : Nat), (.slice B2 labc.length d2)] 35)).heap[u2.heap.size]? = some (.cells #[.int .u64 (p0 : Nat), .int .u64 (p3 : Nat), (.slice B2 labc.length d2)] 35 (0, 0)) := heap_alloc_new _ _
  have hb : Below u2.heap.size u2 (u2.alloc (.cells #[.int .u64 (p0 : Nat), .int .u64 (p3 : Nat), (.slice B2 labc.length d2)] 35)) := below_alloc (Below.refl _ _) _
  generalize hgs : u2.heap.size = g2 at hS ⊢
  generalize (u2.alloc (.cells #[.int .u64 (p0 : Nat), .int .u64 (p3 : Nat), (.slice B2 labc.length d2)] 35)) = v2 at hS hb ⊢
  have C2 := Aside0.mk (Kd.C_below C2z.out hb)
  have G2 : Aside0 (v2.heap[g2]? = some (.cells #[.int .u64 (p0 : Nat), .int .u64 (p3 : Nat), (.slice B2 labc.length d2)] 35 (0, 0))) := ⟨hS⟩
  clear hS C2z
  clear hltHX hltX1 hltX2 hltX3 hltG1
  have HBn := Aside0.mk (below_then HB.out HB.out.size hb)
  have HXn := Aside0.mk (blk_below HX.out hb)
  have X1n := Aside0.mk (blk_below X1.out hb)
  have X2n := Aside0.mk (blk_below X2.out hb)
  have X3n := Aside0.mk (blk_below X3.out hb)
  have G1n := Aside0.mk (blk_below G1.out hb)
  have C1n := Aside0.mk (Kd.C_below C1.out hb)
  clear hb HB HX X1 X2 X3 G1 C1
  have HB := HBn
  have HX := HXn
  have X1 := X1n
  have X2 := X2n
  have X3 := X3n
  have G1 := G1n
  have C1 := C1n
  clear HBn HXn X1n X2n X3n G1n C1n
  (try clear hk0 hk1 hk2 hk3 hk4 hk5 x10 x11 x12 x20 x21 x22 x30 x31 x32)
  obtain ⟨hk0, hk1, hk2, hk3, hk4, hk5⟩ := box6 HX.out
  obtain ⟨x10, x11, x12⟩ := box3 X1.out
  obtain ⟨x20, x21, x22⟩ := box3 X2.out
  obtain ⟨x30, x31, x32⟩ := box3 X3.out
  (try clear y10 y11 y12)
  obtain ⟨y10, y11, y12⟩ := box3 G1.out
  obtain ⟨y20, y21, y22⟩ := box3 G2.out
  go_wp2_with (first
    | (go_at_call 33; (with_reducible refine (O3.out.calls (Kd.C_below h2_.out HB.out) n2 (Kd.C_below h3_.out HB.out) n3 (Glob.below HG.out HB.out)).mono ?_); rintro en u3 ⟨B3, d3, vs3, rfl, hd, hC, hb⟩; have D3 := Aside0.mk hd; have C3z := Aside0.mk hC; clear hd hC; have HBn := Aside0.mk (below_then HB.out HB.out.size hb); have HXn := Aside0.mk (blk_below HX.out hb); have X1n := Aside0.mk (blk_below X1.out hb); have X2n := Aside0.mk (blk_below X2.out hb); have X3n := Aside0.mk (blk_below X3.out hb); have G1n := Aside0.mk (blk_below G1.out hb); have G2n := Aside0.mk (blk_below G2.out hb); have C1n := Aside0.mk (Kd.C_below C1.out hb); have C2n := Aside0.mk (Kd.C_below C2.out hb); clear hb HB HX X1 X2 X3 G1 G2 C1 C2; have HB := HBn; have HX := HXn; have X1 := X1n; have X2 := X2n; have X3 := X3n; have G1 := G1n; have G2 := G2n; have C1 := C1n; have C2 := C2n; clear HBn HXn X1n X2n X3n G1n G2n C1n C2n; (try clear hk0 hk1 hk2 hk3 hk4 hk5 x10 x11 x12 x20 x21 x22 x30 x31 x32); obtain ⟨hk0, hk1, hk2, hk3, hk4, hk5⟩ := box6 HX.out; obtain ⟨x10, x11, x12⟩ := box3 X1.out; obtain ⟨x20, x21, x22⟩ := box3 X2.out; obtain ⟨x30, x31, x32⟩ := box3 X3.out; (try clear y10 y11 y12); obtain ⟨y10, y11, y12⟩ := box3 G1.out; (try clear y20 y21 y22); obtain ⟨y20, y21, y22⟩ := box3 G2.out; have hltHX := lt_of_block HX.out; have hltX1 := lt_of_block X1.out; have hltX2 := lt_of_block X2.out; have hltX3 := lt_of_block X3.out; have hltG1 := lt_of_block G1.out; have hltG2 := lt_of_block G2.out))
  have hS : (u3.alloc (.cells #[.int .u64 (p1 : Nat), .int .u64 (p3 : Nat), (.slice B3 lbc.length d3)] 35)).heap[u3.heap.size]? = some (.cells #[.int .u64 (p1 : Nat), .int .u64 (p3 : Nat), (.slice B3 lbc.length d3)] 35 (0, 0)) := heap_alloc_new _ _
  have hb : Below u3.heap.size u3 (u3.alloc (.cells #[.int .u64 (p1 : Nat), .int .u64 (p3 : Nat), (.slice B3 lbc.length d3)] 35)) := below_alloc (Below.refl _ _) _
  generalize hgs : u3.heap.size = g3 at hS ⊢
  generalize (u3.alloc (.cells #[.int .u64 (p1 : Nat), .int .u64 (p3 : Nat), (.slice B3 lbc.length d3)] 35)) = v3 at hS hb ⊢
  have C3 := Aside0.mk (Kd.C_below C3z.out hb)
  have G3 : Aside0 (v3.heap[g3]? = some (.cells #[.int .u64 (p1 : Nat), .int .u64 (p3 : Nat), (.slice B3 lbc.length d3)] 35 (0, 0))) := ⟨hS⟩
  clear hS C3z
  clear hltHX hltX1 hltX2 hltX3 hltG1 hltG2
  have HBn := Aside0.mk (below_then HB.out HB.out.size hb)
  have HXn := Aside0.mk (blk_below HX.out hb)
  have X1n := Aside0.mk (blk_below X1.out hb)
  have X2n := Aside0.mk (blk_below X2.out hb)
  have X3n := Aside0.mk (blk_below X3.out hb)
  have G1n := Aside0.mk (blk_below G1.out hb)
  have G2n := Aside0.mk (blk_below G2.out hb)
  have C1n := Aside0.mk (Kd.C_below C1.out hb)
  have C2n := Aside0.mk (Kd.C_below C2.out hb)
  clear hb HB HX X1 X2 X3 G1 G2 C1 C2
  have HB := HBn
  have HX := HXn
  have X1 := X1n
  have X2 := X2n
  have X3 := X3n
  have G1 := G1n
  have G2 := G2n
  have C1 := C1n
  have C2 := C2n
  clear HBn HXn X1n X2n X3n G1n G2n C1n C2n
  (try clear hk0 hk1 hk2 hk3 hk4 hk5 x10 x11 x12 x20 x21 x22 x30 x31 x32)
  obtain ⟨hk0, hk1, hk2, hk3, hk4, hk5⟩ := box6 HX.out
  obtain ⟨x10, x11, x12⟩ := box3 X1.out
  obtain ⟨x20, x21, x22⟩ := box3 X2.out
  obtain ⟨x30, x31, x32⟩ := box3 X3.out
  (try clear y10 y11 y12)
  obtain ⟨y10, y11, y12⟩ := box3 G1.out
  (try clear y20 y21 y22)
  obtain ⟨y20, y21, y22⟩ := box3 G2.out
  obtain ⟨y30, y31, y32⟩ := box3 G3.out
  go_wp2_with (first
    | (go_at_call 33; (with_reducible refine (O4.out.calls (Kd.C_below h1_.out HB.out) n1 C3.out D3.out (Glob.below HG.out HB.out)).mono ?_); rintro en u4 ⟨B4, d4, vs4, rfl, hd, hC, hb⟩; have D4 := Aside0.mk hd; have C4z := Aside0.mk hC; clear hd hC; have HBn := Aside0.mk (below_then HB.out HB.out.size hb); have HXn := Aside0.mk (blk_below HX.out hb); have X1n := Aside0.mk (blk_below X1.out hb); have X2n := Aside0.mk (blk_below X2.out hb); have X3n := Aside0.mk (blk_below X3.out hb); have G1n := Aside0.mk (blk_below G1.out hb); have G2n := Aside0.mk (blk_below G2.out hb); have G3n := Aside0.mk (blk_below G3.out hb); have C1n := Aside0.mk (Kd.C_below C1.out hb); have C2n := Aside0.mk (Kd.C_below C2.out hb); have C3n := Aside0.mk (Kd.C_below C3.out hb); clear hb HB HX X1 X2 X3 G1 G2 G3 C1 C2 C3; have HB := HBn; have HX := HXn; have X1 := X1n; have X2 := X2n; have X3 := X3n; have G1 := G1n; have G2 := G2n; have G3 := G3n; have C1 := C1n; have C2 := C2n; have C3 := C3n; clear HBn HXn X1n X2n X3n G1n G2n G3n C1n C2n C3n; (try clear hk0 hk1 hk2 hk3 hk4 hk5 x10 x11 x12 x20 x21 x22 x30 x31 x32); obtain ⟨hk0, hk1, hk2, hk3, hk4, hk5⟩ := box6 HX.out; obtain ⟨x10, x11, x12⟩ := box3 X1.out; obtain ⟨x20, x21, x22⟩ := box3 X2.out; obtain ⟨x30, x31, x32⟩ := box3 X3.out; (try clear y10 y11 y12); obtain ⟨y10, y11, y12⟩ := box3 G1.out; (try clear y20 y21 y22); obtain ⟨y20, y21, y22⟩ := box3 G2.out; (try clear y30 y31 y32); obtain ⟨y30, y31, y32⟩ := box3 G3.out; have hltHX := lt_of_block HX.out; have hltX1 := lt_of_block X1.out; have hltX2 := lt_of_block X2.out; have hltX3 := lt_of_block X3.out; have hltG1 := lt_of_block G1.out; have hltG2 := lt_of_block G2.out; have hltG3 := lt_of_block G3.out))
  have hS : (u4.alloc (.cells #[.int .u64 (p0 : Nat), .int .u64 (p3 : Nat), (.slice B4 labc.length d4)] 35)).heap[u4.heap.size]? = some (.cells #[.int .u64 (p0 : Nat), .int .u64 (p3 : Nat), (.slice B4 labc.length d4)] 35 (0, 0)) := heap_alloc_new _ _
  have hb : Below u4.heap.size u4 (u4.alloc (.cells #[.int .u64 (p0 : Nat), .int .u64 (p3 : Nat), (.slice B4 labc.length d4)] 35)) := below_alloc (Below.refl _ _) _
  generalize hgs : u4.heap.size = g4 at hS ⊢
  generalize (u4.alloc (.cells #[.int .u64 (p0 : Nat), .int .u64 (p3 : Nat), (.slice B4 labc.length d4)] 35)) = v4 at hS hb ⊢
  have C4 := Aside0.mk (Kd.C_below C4z.out hb)
  have G4 : Aside0 (v4.heap[g4]? = some (.cells #[.int .u64 (p0 : Nat), .int .u64 (p3 : Nat), (.slice B4 labc.length d4)] 35 (0, 0))) := ⟨hS⟩
  clear hS C4z
  clear hltHX hltX1 hltX2 hltX3 hltG1 hltG2 hltG3
  have HBn := Aside0.mk (below_then HB.out HB.out.size hb)
  have HXn := Aside0.mk (blk_below HX.out hb)
  have X1n := Aside0.mk (blk_below X1.out hb)
  have X2n := Aside0.mk (blk_below X2.out hb)
  have X3n := Aside0.mk (blk_below X3.out hb)
  have G1n := Aside0.mk (blk_below G1.out hb)
  have G2n := Aside0.mk (blk_below G2.out hb)
  have G3n := Aside0.mk (blk_below G3.out hb)
  have C1n := Aside0.mk (Kd.C_below C1.out hb)
  have C2n := Aside0.mk (Kd.C_below C2.out hb)
  have C3n := Aside0.mk (Kd.C_below C3.out hb)
  clear hb HB HX X1 X2 X3 G1 G2 G3 C1 C2 C3
  have HB := HBn
  have HX := HXn
  have X1 := X1n
  have X2 := X2n
  have X3 := X3n
  have G1 := G1n
  have G2 := G2n
  have G3 := G3n
  have C1 := C1n
  have C2 := C2n
  have C3 := C3n
  clear HBn HXn X1n X2n X3n G1n G2n G3n C1n C2n C3n
  (try clear hk0 hk1 hk2 hk3 hk4 hk5 x10 x11 x12 x20 x21 x22 x30 x31 x32)
  obtain ⟨hk0, hk1, hk2, hk3, hk4, hk5⟩ := box6 HX.out
  obtain ⟨x10, x11, x12⟩ := box3 X1.out
  obtain ⟨x20, x21, x22⟩ := box3 X2.out
  obtain ⟨x30, x31, x32⟩ := box3 X3.out
  (try clear y10 y11 y12)
  obtain ⟨y10, y11, y12⟩ := box3 G1.out
  (try clear y20 y21 y22)
  obtain ⟨y20, y21, y22⟩ := box3 G2.out
  (try clear y30 y31 y32)
  obtain ⟨y30, y31, y32⟩ := box3 G3.out
  obtain ⟨y40, y41, y42⟩ := box3 G4.out
  go_wp2_with (first
    | (go_at_call 27; (with_reducible refine (spec_SameRange.calls (p0 : Int) (p3 : Int) B2 d2 labc (p0 : Int) (p3 : Int) B4 d4 labc true _ C2.out D2.out C4.out D4.out SR.out).mono ?_); rintro en wx ⟨rfl, hb⟩; have HBn := Aside0.mk (below_then HB.out HB.out.size hb); have HXn := Aside0.mk (blk_below HX.out hb); have X1n := Aside0.mk (blk_below X1.out hb); have X2n := Aside0.mk (blk_below X2.out hb); have X3n := Aside0.mk (blk_below X3.out hb); have G1n := Aside0.mk (blk_below G1.out hb); have G2n := Aside0.mk (blk_below G2.out hb); have G3n := Aside0.mk (blk_below G3.out hb); have G4n := Aside0.mk (blk_below G4.out hb); have C1n := Aside0.mk (Kd.C_below C1.out hb); have C2n := Aside0.mk (Kd.C_below C2.out hb); have C3n := Aside0.mk (Kd.C_below C3.out hb); have C4n := Aside0.mk (Kd.C_below C4.out hb); clear hb HB HX X1 X2 X3 G1 G2 G3 G4 C1 C2 C3 C4; have HB := HBn; have HX := HXn; have X1 := X1n; have X2 := X2n; have X3 := X3n; have G1 := G1n; have G2 := G2n; have G3 := G3n; have G4 := G4n; have C1 := C1n; have C2 := C2n; have C3 := C3n; have C4 := C4n; clear HBn HXn X1n X2n X3n G1n G2n G3n G4n C1n C2n C3n C4n; (try clear hk0 hk1 hk2 hk3 hk4 hk5 x10 x11 x12 x20 x21 x22 x30 x31 x32); obtain ⟨hk0, hk1, hk2, hk3, hk4, hk5⟩ := box6 HX.out; obtain ⟨x10, x11, x12⟩ := box3 X1.out; obtain ⟨x20, x21, x22⟩ := box3 X2.out; obtain ⟨x30, x31, x32⟩ := box3 X3.out; (try clear y10 y11 y12); obtain ⟨y10, y11, y12⟩ := box3 G1.out; (try clear y20 y21 y22); obtain ⟨y20, y21, y22⟩ := box3 G2.out; (try clear y30 y31 y32); obtain ⟨y30, y31, y32⟩ := box3 G3.out; (try clear y40 y41 y42); obtain ⟨y40, y41, y42⟩ := box3 G4.out))
  go_ret
  exact ⟨rfl, HB.out⟩

set_option maxHeartbeats 8000000 in
set_option maxRecDepth 100000 in
theorem mg11 (K : Nat) (a0 a1 a2 a3 a4 a5 : Int) (p0 p1 p2 p3 : Nat) (A1 : Option Addr) (c1 : Nat) (l1 : List (List Int)) (A2 : Option Addr) (c2 : Nat) (l2 : List (List Int)) (A3 : Option Addr) (c3 : Nat) (l3 : List (List Int)) (w : World) (h1 : CL w A1 l1) (n1 : l1.length ≤ c1) (h2 : CL w A2 l2) (n2 : l2.length ≤ c2) (h3 : CL w A3 l3) (n3 : l3.length ≤ c3) (z1_ : laws_zzFits7.f K (p0 : Int) (p1 : Int) l1 = some true) (z2_ : laws_zzFits7.f K (p1 : Int) (p2 : Int) l2 = some true) (z3_ : laws_zzFits7.f K (p2 : Int) (p3 : Int) l3 = some true) (r1_ : laws_rangeFair.f K (p0 : Int) (p1 : Int) l1 = some true) (r2_ : laws_rangeFair.f K (p1 : Int) (p2 : Int) l2 = some true) (r3_ : laws_rangeFair.f K (p2 : Int) (p3 : Int) l3 = some true) (q3 : (p1 == 0) = true) (q3i : ((p1 : Int) == 0) = true) (q4 : (p3 == 18446744073709551615) = false) (q4i : ((p3 : Int) == 18446744073709551615) = false) (HG_ : Glob w) (k : Nat) (lab labc lbc : List (List Int)) (o1 : ArOk a0 a1 a2 a3 a4 a5 p0 p1 p2 l1 l2 lab k) (o2 : ArOk a0 a1 a2 a3 a4 a5 p0 p2 p3 lab l3 labc k) (o3 : ArOk a0 a1 a2 a3 a4 a5 p1 p2 p3 l2 l3 lbc k) (o4 : ArOk a0 a1 a2 a3 a4 a5 p0 p1 p3 l1 lbc labc k) (sr : spec_SameRange.f (p0 : Int) (p3 : Int) labc (p0 : Int) (p3 : Int) labc = some true) (q5 : (IntKind.u64.wrap ((p3 : Int) - (p2 : Int)) != 1) = true) :
    Calls Tryd.prog 8 #[.agg #[.int .i64 a0, .int .i64 a1, .int .i64 a2, .int .u64 a3, .int .u64 a4, .int .u64 a5], .agg #[.int .u64 (p0 : Nat), .int .u64 (p1 : Nat), .slice A1 l1.length c1], .agg #[.int .u64 (p1 : Nat), .int .u64 (p2 : Nat), .slice A2 l2.length c2], .agg #[.int .u64 (p2 : Nat), .int .u64 (p3 : Nat), .slice A3 l3.length c3]] w fun en w' => en = .returned (.bool true) ∧ Below w.heap.size w w' := by
  have h1_ := Aside0.mk h1
  clear h1
  have h2_ := Aside0.mk h2
  clear h2
  have h3_ := Aside0.mk h3
  clear h3
  have _u := And.intro n1 (And.intro n2 (And.intro n3 (Eq.refl K)))
  clear _u
  obtain ⟨hB0, hX0, hX1, hX2, hX3⟩ := allocs4' w #[.int .i64 a0, .int .i64 a1, .int .i64 a2, .int .u64 a3, .int .u64 a4, .int .u64 a5] 24 #[.int .u64 (p0 : Nat), .int .u64 (p1 : Nat), .slice A1 l1.length c1] 35 #[.int .u64 (p1 : Nat), .int .u64 (p2 : Nat), .slice A2 l2.length c2] 35 #[.int .u64 (p2 : Nat), .int .u64 (p3 : Nat), .slice A3 l3.length c3] 35
  have HB := Aside0.mk hB0
  have HX := Aside0.mk hX0
  have X1 := Aside0.mk hX1
  have X2 := Aside0.mk hX2
  have X3 := Aside0.mk hX3
  clear hB0 hX0 hX1 hX2 hX3
  have Z1 := Aside0.mk z1_
  clear z1_
  have Z2 := Aside0.mk z2_
  clear z2_
  have Z3 := Aside0.mk z3_
  clear z3_
  have R1 := Aside0.mk r1_
  clear r1_
  have R2 := Aside0.mk r2_
  clear r2_
  have R3 := Aside0.mk r3_
  clear r3_
  have HG := Aside0.mk HG_
  clear HG_
  have O1 := Aside0.mk o1
  clear o1
  have O2 := Aside0.mk o2
  clear o2
  have O3 := Aside0.mk o3
  clear o3
  have O4 := Aside0.mk o4
  clear o4
  have SR := Aside0.mk sr
  clear sr
  have _v := And.intro q3 (And.intro q3i (And.intro q4 (And.intro q4i (Eq.refl K))))
  clear _v
  go_enter Tryd.func8, Tryd.ntmps8
  go_wp2_with fail
  (try generalize ((((w.alloc (.cells #[.int .i64 a0, .int .i64 a1, .int .i64 a2, .int .u64 a3, .int .u64 a4, .int .u64 a5] 24)).alloc (.cells #[.int .u64 (p0 : Nat), .int .u64 (p1 : Nat), .slice A1 l1.length c1] 35)).alloc (.cells #[.int .u64 (p1 : Nat), .int .u64 (p2 : Nat), .slice A2 l2.length c2] 35)).alloc (.cells #[.int .u64 (p2 : Nat), .int .u64 (p3 : Nat), .slice A3 l3.length c3] 35)) = wA at HB HX X1 X2 X3 ⊢)
  (try clear hk0 hk1 hk2 hk3 hk4 hk5 x10 x11 x12 x20 x21 x22 x30 x31 x32)
  obtain ⟨hk0, hk1, hk2, hk3, hk4, hk5⟩ := box6 HX.out
  obtain ⟨x10, x11, x12⟩ := box3 X1.out
  obtain ⟨x20, x21, x22⟩ := box3 X2.out
  obtain ⟨x30, x31, x32⟩ := box3 X3.out
  go_wp2_with (first
    | (go_at_call 19; (with_reducible refine (laws_zzFits7.calls K (p0 : Int) (p1 : Int) A1 c1 l1 _ _ (Kd.C_below h1_.out HB.out) n1 Z1.out).mono ?_); rintro en wz1 ⟨rfl, hb⟩; have HBn := Aside0.mk (below_then HB.out HB.out.size hb); have HXn := Aside0.mk (blk_below HX.out hb); have X1n := Aside0.mk (blk_below X1.out hb); have X2n := Aside0.mk (blk_below X2.out hb); have X3n := Aside0.mk (blk_below X3.out hb); clear hb HB HX X1 X2 X3; have HB := HBn; have HX := HXn; have X1 := X1n; have X2 := X2n; have X3 := X3n; clear HBn HXn X1n X2n X3n; (try clear hk0 hk1 hk2 hk3 hk4 hk5 x10 x11 x12 x20 x21 x22 x30 x31 x32); obtain ⟨hk0, hk1, hk2, hk3, hk4, hk5⟩ := box6 HX.out; obtain ⟨x10, x11, x12⟩ := box3 X1.out; obtain ⟨x20, x21, x22⟩ := box3 X2.out; obtain ⟨x30, x31, x32⟩ := box3 X3.out)
    | (go_at_call 19; (with_reducible refine (laws_zzFits7.calls K (p1 : Int) (p2 : Int) A2 c2 l2 _ _ (Kd.C_below h2_.out HB.out) n2 Z2.out).mono ?_); rintro en wz2 ⟨rfl, hb⟩; have HBn := Aside0.mk (below_then HB.out HB.out.size hb); have HXn := Aside0.mk (blk_below HX.out hb); have X1n := Aside0.mk (blk_below X1.out hb); have X2n := Aside0.mk (blk_below X2.out hb); have X3n := Aside0.mk (blk_below X3.out hb); clear hb HB HX X1 X2 X3; have HB := HBn; have HX := HXn; have X1 := X1n; have X2 := X2n; have X3 := X3n; clear HBn HXn X1n X2n X3n; (try clear hk0 hk1 hk2 hk3 hk4 hk5 x10 x11 x12 x20 x21 x22 x30 x31 x32); obtain ⟨hk0, hk1, hk2, hk3, hk4, hk5⟩ := box6 HX.out; obtain ⟨x10, x11, x12⟩ := box3 X1.out; obtain ⟨x20, x21, x22⟩ := box3 X2.out; obtain ⟨x30, x31, x32⟩ := box3 X3.out)
    | (go_at_call 19; (with_reducible refine (laws_zzFits7.calls K (p2 : Int) (p3 : Int) A3 c3 l3 _ _ (Kd.C_below h3_.out HB.out) n3 Z3.out).mono ?_); rintro en wz3 ⟨rfl, hb⟩; have HBn := Aside0.mk (below_then HB.out HB.out.size hb); have HXn := Aside0.mk (blk_below HX.out hb); have X1n := Aside0.mk (blk_below X1.out hb); have X2n := Aside0.mk (blk_below X2.out hb); have X3n := Aside0.mk (blk_below X3.out hb); clear hb HB HX X1 X2 X3; have HB := HBn; have HX := HXn; have X1 := X1n; have X2 := X2n; have X3 := X3n; clear HBn HXn X1n X2n X3n; (try clear hk0 hk1 hk2 hk3 hk4 hk5 x10 x11 x12 x20 x21 x22 x30 x31 x32); obtain ⟨hk0, hk1, hk2, hk3, hk4, hk5⟩ := box6 HX.out; obtain ⟨x10, x11, x12⟩ := box3 X1.out; obtain ⟨x20, x21, x22⟩ := box3 X2.out; obtain ⟨x30, x31, x32⟩ := box3 X3.out)
    | (go_at_call 20; (with_reducible refine (laws_rangeFair.calls K (p0 : Int) (p1 : Int) A1 c1 l1 _ _ (Kd.C_below h1_.out HB.out) n1 R1.out).mono ?_); rintro en wr1 ⟨rfl, hb⟩; have HBn := Aside0.mk (below_then HB.out HB.out.size hb); have HXn := Aside0.mk (blk_below HX.out hb); have X1n := Aside0.mk (blk_below X1.out hb); have X2n := Aside0.mk (blk_below X2.out hb); have X3n := Aside0.mk (blk_below X3.out hb); clear hb HB HX X1 X2 X3; have HB := HBn; have HX := HXn; have X1 := X1n; have X2 := X2n; have X3 := X3n; clear HBn HXn X1n X2n X3n; (try clear hk0 hk1 hk2 hk3 hk4 hk5 x10 x11 x12 x20 x21 x22 x30 x31 x32); obtain ⟨hk0, hk1, hk2, hk3, hk4, hk5⟩ := box6 HX.out; obtain ⟨x10, x11, x12⟩ := box3 X1.out; obtain ⟨x20, x21, x22⟩ := box3 X2.out; obtain ⟨x30, x31, x32⟩ := box3 X3.out)
    | (go_at_call 20; (with_reducible refine (laws_rangeFair.calls K (p1 : Int) (p2 : Int) A2 c2 l2 _ _ (Kd.C_below h2_.out HB.out) n2 R2.out).mono ?_); rintro en wr2 ⟨rfl, hb⟩; have HBn := Aside0.mk (below_then HB.out HB.out.size hb); have HXn := Aside0.mk (blk_below HX.out hb); have X1n := Aside0.mk (blk_below X1.out hb); have X2n := Aside0.mk (blk_below X2.out hb); have X3n := Aside0.mk (blk_below X3.out hb); clear hb HB HX X1 X2 X3; have HB := HBn; have HX := HXn; have X1 := X1n; have X2 := X2n; have X3 := X3n; clear HBn HXn X1n X2n X3n; (try clear hk0 hk1 hk2 hk3 hk4 hk5 x10 x11 x12 x20 x21 x22 x30 x31 x32); obtain ⟨hk0, hk1, hk2, hk3, hk4, hk5⟩ := box6 HX.out; obtain ⟨x10, x11, x12⟩ := box3 X1.out; obtain ⟨x20, x21, x22⟩ := box3 X2.out; obtain ⟨x30, x31, x32⟩ := box3 X3.out)
    | (go_at_call 20; (with_reducible refine (laws_rangeFair.calls K (p2 : Int) (p3 : Int) A3 c3 l3 _ _ (Kd.C_below h3_.out HB.out) n3 R3.out).mono ?_); rintro en wr3 ⟨rfl, hb⟩; have HBn := Aside0.mk (below_then HB.out HB.out.size hb); have HXn := Aside0.mk (blk_below HX.out hb); have X1n := Aside0.mk (blk_below X1.out hb); have X2n := Aside0.mk (blk_below X2.out hb); have X3n := Aside0.mk (blk_below X3.out hb); clear hb HB HX X1 X2 X3; have HB := HBn; have HX := HXn; have X1 := X1n; have X2 := X2n; have X3 := X3n; clear HBn HXn X1n X2n X3n; (try clear hk0 hk1 hk2 hk3 hk4 hk5 x10 x11 x12 x20 x21 x22 x30 x31 x32); obtain ⟨hk0, hk1, hk2, hk3, hk4, hk5⟩ := box6 HX.out; obtain ⟨x10, x11, x12⟩ := box3 X1.out; obtain ⟨x20, x21, x22⟩ := box3 X2.out; obtain ⟨x30, x31, x32⟩ := box3 X3.out))
  go_wp2_with (first
    | (go_at_call 33; (with_reducible refine (O1.out.calls (Kd.C_below h1_.out HB.out) n1 (Kd.C_below h2_.out HB.out) n2 (Glob.below HG.out HB.out)).mono ?_); rintro en u1 ⟨B1, d1, vs1, rfl, hd, hC, hb⟩; have D1 := Aside0.mk hd; have C1z := Aside0.mk hC; clear hd hC; have HBn := Aside0.mk (below_then HB.out HB.out.size hb); have HXn := Aside0.mk (blk_below HX.out hb); have X1n := Aside0.mk (blk_below X1.out hb); have X2n := Aside0.mk (blk_below X2.out hb); have X3n := Aside0.mk (blk_below X3.out hb); clear hb HB HX X1 X2 X3; have HB := HBn; have HX := HXn; have X1 := X1n; have X2 := X2n; have X3 := X3n; clear HBn HXn X1n X2n X3n; (try clear hk0 hk1 hk2 hk3 hk4 hk5 x10 x11 x12 x20 x21 x22 x30 x31 x32); obtain ⟨hk0, hk1, hk2, hk3, hk4, hk5⟩ := box6 HX.out; obtain ⟨x10, x11, x12⟩ := box3 X1.out; obtain ⟨x20, x21, x22⟩ := box3 X2.out; obtain ⟨x30, x31, x32⟩ := box3 X3.out; have hltHX := lt_of_block HX.out; have hltX1 := lt_of_block X1.out; have hltX2 := lt_of_block X2.out; have hltX3 := lt_of_block X3.out))
  have hS : (u1.alloc (.cells #[.int .u64 (p0 : Nat), .int .u64 (p2 : Nat), (.slice B1 lab.length d1)] 35)).heap[u1.heap.size]? = some (.cells #[.int .u64 (p0 : Nat), .int .u64 (p2 : Nat), (.slice B1 lab.length d1)] 35 (0, 0)) := heap_alloc_new _ _
  have hb : Below u1.heap.size u1 (u1.alloc (.cells #[.int .u64 (p0 : Nat), .int .u64 (p2 : Nat), (.slice B1 lab.length d1)] 35)) := below_alloc (Below.refl _ _) _
  generalize hgs : u1.heap.size = g1 at hS ⊢
  generalize (u1.alloc (.cells #[.int .u64 (p0 : Nat), .int .u64 (p2 : Nat), (.slice B1 lab.length d1)] 35)) = v1 at hS hb ⊢
  have C1 := Aside0.mk (Kd.C_below C1z.out hb)
  have G1 : Aside0 (v1.heap[g1]? = some (.cells #[.int .u64 (p0 : Nat), .int .u64 (p2 : Nat), (.slice B1 lab.length d1)] 35 (0, 0))) := ⟨hS⟩
  clear hS C1z
  clear hltHX hltX1 hltX2 hltX3
  have HBn := Aside0.mk (below_then HB.out HB.out.size hb)
  have HXn := Aside0.mk (blk_below HX.out hb)
  have X1n := Aside0.mk (blk_below X1.out hb)
  have X2n := Aside0.mk (blk_below X2.out hb)
  have X3n := Aside0.mk (blk_below X3.out hb)
  clear hb HB HX X1 X2 X3
  have HB := HBn
  have HX := HXn
  have X1 := X1n
  have X2 := X2n
  have X3 := X3n
  clear HBn HXn X1n X2n X3n
  (try clear hk0 hk1 hk2 hk3 hk4 hk5 x10 x11 x12 x20 x21 x22 x30 x31 x32)
  obtain ⟨hk0, hk1, hk2, hk3, hk4, hk5⟩ := box6 HX.out
  obtain ⟨x10, x11, x12⟩ := box3 X1.out
  obtain ⟨x20, x21, x22⟩ := box3 X2.out
  obtain ⟨x30, x31, x32⟩ := box3 X3.out
  obtain ⟨y10, y11, y12⟩ := box3 G1.out
  go_wp2_with (first
    | (go_at_call 33; (with_reducible refine (O2.out.calls C1.out D1.out (Kd.C_below h3_.out HB.out) n3 (Glob.below HG.out HB.out)).mono ?_); rintro en u2 ⟨B2, d2, vs2, rfl, hd, hC, hb⟩; have D2 := Aside0.mk hd; have C2z := Aside0.mk hC; clear hd hC; have HBn := Aside0.mk (below_then HB.out HB.out.size hb); have HXn := Aside0.mk (blk_below HX.out hb); have X1n := Aside0.mk (blk_below X1.out hb); have X2n := Aside0.mk (blk_below X2.out hb); have X3n := Aside0.mk (blk_below X3.out hb); have G1n := Aside0.mk (blk_below G1.out hb); have C1n := Aside0.mk (Kd.C_below C1.out hb); clear hb HB HX X1 X2 X3 G1 C1; have HB := HBn; have HX := HXn; have X1 := X1n; have X2 := X2n; have X3 := X3n; have G1 := G1n; have C1 := C1n; clear HBn HXn X1n X2n X3n G1n C1n; (try clear hk0 hk1 hk2 hk3 hk4 hk5 x10 x11 x12 x20 x21 x22 x30 x31 x32); obtain ⟨hk0, hk1, hk2, hk3, hk4, hk5⟩ := box6 HX.out; obtain ⟨x10, x11, x12⟩ := box3 X1.out; obtain ⟨x20, x21, x22⟩ := box3 X2.out; obtain ⟨x30, x31, x32⟩ := box3 X3.out; (try clear y10 y11 y12); obtain ⟨y10, y11, y12⟩ := box3 G1.out; have hltHX := lt_of_block HX.out; have hltX1 := lt_of_block X1.out; have hltX2 := lt_of_block X2.out; have hltX3 := lt_of_block X3.out; have hltG1 := lt_of_block G1.out))
  have hS : (u2.alloc (.cells #[.int .u64 (p0 : Nat), .int .u64 (p3 : Nat), (.slice B2 labc.length d2)] 35)).heap[u2.heap.size]? = some (.cells #[.int .u64 (p0 : Nat), .int .u64 (p3 : Nat), (.slice B2 labc.length d2)] 35 (0, 0)) := heap_alloc_new _ _
  have hb : Below u2.heap.size u2 (u2.alloc (.cells #[.int .u64 (p0 : Nat), .int .u64 (p3 : Nat), (.slice B2 labc.length d2)] 35)) := below_alloc (Below.refl _ _) _
  generalize hgs : u2.heap.size = g2 at hS ⊢
  generalize (u2.alloc (.cells #[.int .u64 (p0 : Nat), .int .u64 (p3 : Nat), (.slice B2 labc.length d2)] 35)) = v2 at hS hb ⊢
  have C2 := Aside0.mk (Kd.C_below C2z.out hb)
  have G2 : Aside0 (v2.heap[g2]? = some (.cells #[.int .u64 (p0 : Nat), .int .u64 (p3 : Nat), (.slice B2 labc.length d2)] 35 (0, 0))) := ⟨hS⟩
  clear hS C2z
  clear hltHX hltX1 hltX2 hltX3 hltG1
  have HBn := Aside0.mk (below_then HB.out HB.out.size hb)
  have HXn := Aside0.mk (blk_below HX.out hb)
  have X1n := Aside0.mk (blk_below X1.out hb)
  have X2n := Aside0.mk (blk_below X2.out hb)
  have X3n := Aside0.mk (blk_below X3.out hb)
  have G1n := Aside0.mk (blk_below G1.out hb)
  have C1n := Aside0.mk (Kd.C_below C1.out hb)
  clear hb HB HX X1 X2 X3 G1 C1
  have HB := HBn
  have HX := HXn
  have X1 := X1n
  have X2 := X2n
  have X3 := X3n
  have G1 := G1n
  have C1 := C1n
  clear HBn HXn X1n X2n X3n G1n C1n
  (try clear hk0 hk1 hk2 hk3 hk4 hk5 x10 x11 x12 x20 x21 x22 x30 x31 x32)
  obtain ⟨hk0, hk1, hk2, hk3, hk4, hk5⟩ := box6 HX.out
  obtain ⟨x10, x11, x12⟩ := box3 X1.out
  obtain ⟨x20, x21, x22⟩ := box3 X2.out
  obtain ⟨x30, x31, x32⟩ := box3 X3.out
  (try clear y10 y11 y12)
  obtain ⟨y10, y11, y12⟩ := box3 G1.out
  obtain ⟨y20, y21, y22⟩ := box3 G2.out
  go_wp2_with (first
    | (go_at_call 33; (with_reducible refine (O3.out.calls (Kd.C_below h2_.out HB.out) n2 (Kd.C_below h3_.out HB.out) n3 (Glob.below HG.out HB.out)).mono ?_); rintro en u3 ⟨B3, d3, vs3, rfl, hd, hC, hb⟩; have D3 := Aside0.mk hd; have C3z := Aside0.mk hC; clear hd hC; have HBn := Aside0.mk (below_then HB.out HB.out.size hb); have HXn := Aside0.mk (blk_below HX.out hb); have X1n := Aside0.mk (blk_below X1.out hb); have X2n := Aside0.mk (blk_below X2.out hb); have X3n := Aside0.mk (blk_below X3.out hb); have G1n := Aside0.mk (blk_below G1.out hb); have G2n := Aside0.mk (blk_below G2.out hb); have C1n := Aside0.mk (Kd.C_below C1.out hb); have C2n := Aside0.mk (Kd.C_below C2.out hb); clear hb HB HX X1 X2 X3 G1 G2 C1 C2; have HB := HBn; have HX := HXn; have X1 := X1n; have X2 := X2n; have X3 := X3n; have G1 := G1n; have G2 := G2n; have C1 := C1n; have C2 := C2n; clear HBn HXn X1n X2n X3n G1n G2n C1n C2n; (try clear hk0 hk1 hk2 hk3 hk4 hk5 x10 x11 x12 x20 x21 x22 x30 x31 x32); obtain ⟨hk0, hk1, hk2, hk3, hk4, hk5⟩ := box6 HX.out; obtain ⟨x10, x11, x12⟩ := box3 X1.out; obtain ⟨x20, x21, x22⟩ := box3 X2.out; obtain ⟨x30, x31, x32⟩ := box3 X3.out; (try clear y10 y11 y12); obtain ⟨y10, y11, y12⟩ := box3 G1.out; (try clear y20 y21 y22); obtain ⟨y20, y21, y22⟩ := box3 G2.out; have hltHX := lt_of_block HX.out; have hltX1 := lt_of_block X1.out; have hltX2 := lt_of_block X2.out; have hltX3 := lt_of_block X3.out; have hltG1 := lt_of_block G1.out; have hltG2 := lt_of_block G2.out))
  have hS : (u3.alloc (.cells #[.int .u64 (p1 : Nat), .int .u64 (p3 : Nat), (.slice B3 lbc.length d3)] 35)).heap[u3.heap.size]? = some (.cells #[.int .u64 (p1 : Nat), .int .u64 (p3 : Nat), (.slice B3 lbc.length d3)] 35 (0, 0)) := heap_alloc_new _ _
  have hb : Below u3.heap.size u3 (u3.alloc (.cells #[.int .u64 (p1 : Nat), .int .u64 (p3 : Nat), (.slice B3 lbc.length d3)] 35)) := below_alloc (Below.refl _ _) _
  generalize hgs : u3.heap.size = g3 at hS ⊢
  generalize (u3.alloc (.cells #[.int .u64 (p1 : Nat), .int .u64 (p3 : Nat), (.slice B3 lbc.length d3)] 35)) = v3 at hS hb ⊢
  have C3 := Aside0.mk (Kd.C_below C3z.out hb)
  have G3 : Aside0 (v3.heap[g3]? = some (.cells #[.int .u64 (p1 : Nat), .int .u64 (p3 : Nat), (.slice B3 lbc.length d3)] 35 (0, 0))) := ⟨hS⟩
  clear hS C3z
  clear hltHX hltX1 hltX2 hltX3 hltG1 hltG2
  have HBn := Aside0.mk (below_then HB.out HB.out.size hb)
  have HXn := Aside0.mk (blk_below HX.out hb)
  have X1n := Aside0.mk (blk_below X1.out hb)
  have X2n := Aside0.mk (blk_below X2.out hb)
  have X3n := Aside0.mk (blk_below X3.out hb)
  have G1n := Aside0.mk (blk_below G1.out hb)
  have G2n := Aside0.mk (blk_below G2.out hb)
  have C1n := Aside0.mk (Kd.C_below C1.out hb)
  have C2n := Aside0.mk (Kd.C_below C2.out hb)
  clear hb HB HX X1 X2 X3 G1 G2 C1 C2
  have HB := HBn
  have HX := HXn
  have X1 := X1n
  have X2 := X2n
  have X3 := X3n
  have G1 := G1n
  have G2 := G2n
  have C1 := C1n
  have C2 := C2n
  clear HBn HXn X1n X2n X3n G1n G2n C1n C2n
  (try clear hk0 hk1 hk2 hk3 hk4 hk5 x10 x11 x12 x20 x21 x22 x30 x31 x32)
  obtain ⟨hk0, hk1, hk2, hk3, hk4, hk5⟩ := box6 HX.out
  obtain ⟨x10, x11, x12⟩ := box3 X1.out
  obtain ⟨x20, x21, x22⟩ := box3 X2.out
  obtain ⟨x30, x31, x32⟩ := box3 X3.out
  (try clear y10 y11 y12)
  obtain ⟨y10, y11, y12⟩ := box3 G1.out
  (try clear y20 y21 y22)
  obtain ⟨y20, y21, y22⟩ := box3 G2.out
  obtain ⟨y30, y31, y32⟩ := box3 G3.out
  go_wp2_with (first
    | (go_at_call 33; (with_reducible refine (O4.out.calls (Kd.C_below h1_.out HB.out) n1 C3.out D3.out (Glob.below HG.out HB.out)).mono ?_); rintro en u4 ⟨B4, d4, vs4, rfl, hd, hC, hb⟩; have D4 := Aside0.mk hd; have C4z := Aside0.mk hC; clear hd hC; have HBn := Aside0.mk (below_then HB.out HB.out.size hb); have HXn := Aside0.mk (blk_below HX.out hb); have X1n := Aside0.mk (blk_below X1.out hb); have X2n := Aside0.mk (blk_below X2.out hb); have X3n := Aside0.mk (blk_below X3.out hb); have G1n := Aside0.mk (blk_below G1.out hb); have G2n := Aside0.mk (blk_below G2.out hb); have G3n := Aside0.mk (blk_below G3.out hb); have C1n := Aside0.mk (Kd.C_below C1.out hb); have C2n := Aside0.mk (Kd.C_below C2.out hb); have C3n := Aside0.mk (Kd.C_below C3.out hb); clear hb HB HX X1 X2 X3 G1 G2 G3 C1 C2 C3; have HB := HBn; have HX := HXn; have X1 := X1n; have X2 := X2n; have X3 := X3n; have G1 := G1n; have G2 := G2n; have G3 := G3n; have C1 := C1n; have C2 := C2n; have C3 := C3n; clear HBn HXn X1n X2n X3n G1n G2n G3n C1n C2n C3n; (try clear hk0 hk1 hk2 hk3 hk4 hk5 x10 x11 x12 x20 x21 x22 x30 x31 x32); obtain ⟨hk0, hk1, hk2, hk3, hk4, hk5⟩ := box6 HX.out; obtain ⟨x10, x11, x12⟩ := box3 X1.out; obtain ⟨x20, x21, x22⟩ := box3 X2.out; obtain ⟨x30, x31, x32⟩ := box3 X3.out; (try clear y10 y11 y12); obtain ⟨y10, y11, y12⟩ := box3 G1.out; (try clear y20 y21 y22); obtain ⟨y20, y21, y22⟩ := box3 G2.out; (try clear y30 y31 y32); obtain ⟨y30, y31, y32⟩ := box3 G3.out; have hltHX := lt_of_block HX.out; have hltX1 := lt_of_block X1.out; have hltX2 := lt_of_block X2.out; have hltX3 := lt_of_block X3.out; have hltG1 := lt_of_block G1.out; have hltG2 := lt_of_block G2.out; have hltG3 := lt_of_block G3.out))
  have hS : (u4.alloc (.cells #[.int .u64 (p0 : Nat), .int .u64 (p3 : Nat), (.slice B4 labc.length d4)] 35)).heap[u4.heap.size]? = some (.cells #[.int .u64 (p0 : Nat), .int .u64 (p3 : Nat), (.slice B4 labc.length d4)] 35 (0, 0)) := heap_alloc_new _ _
  have hb : Below u4.heap.size u4 (u4.alloc (.cells #[.int .u64 (p0 : Nat), .int .u64 (p3 : Nat), (.slice B4 labc.length d4)] 35)) := below_alloc (Below.refl _ _) _
  generalize hgs : u4.heap.size = g4 at hS ⊢
  generalize (u4.alloc (.cells #[.int .u64 (p0 : Nat), .int .u64 (p3 : Nat), (.slice B4 labc.length d4)] 35)) = v4 at hS hb ⊢
  have C4 := Aside0.mk (Kd.C_below C4z.out hb)
  have G4 : Aside0 (v4.heap[g4]? = some (.cells #[.int .u64 (p0 : Nat), .int .u64 (p3 : Nat), (.slice B4 labc.length d4)] 35 (0, 0))) := ⟨hS⟩
  clear hS C4z
  clear hltHX hltX1 hltX2 hltX3 hltG1 hltG2 hltG3
  have HBn := Aside0.mk (below_then HB.out HB.out.size hb)
  have HXn := Aside0.mk (blk_below HX.out hb)
  have X1n := Aside0.mk (blk_below X1.out hb)
  have X2n := Aside0.mk (blk_below X2.out hb)
  have X3n := Aside0.mk (blk_below X3.out hb)
  have G1n := Aside0.mk (blk_below G1.out hb)
  have G2n := Aside0.mk (blk_below G2.out hb)
  have G3n := Aside0.mk (blk_below G3.out hb)
  have C1n := Aside0.mk (Kd.C_below C1.out hb)
  have C2n := Aside0.mk (Kd.C_below C2.out hb)
  have C3n := Aside0.mk (Kd.C_below C3.out hb)
  clear hb HB HX X1 X2 X3 G1 G2 G3 C1 C2 C3
  have HB := HBn
  have HX := HXn
  have X1 := X1n
  have X2 := X2n
  have X3 := X3n
  have G1 := G1n
  have G2 := G2n
  have G3 := G3n
  have C1 := C1n
  have C2 := C2n
  have C3 := C3n
  clear HBn HXn X1n X2n X3n G1n G2n G3n C1n C2n C3n
  (try clear hk0 hk1 hk2 hk3 hk4 hk5 x10 x11 x12 x20 x21 x22 x30 x31 x32)
  obtain ⟨hk0, hk1, hk2, hk3, hk4, hk5⟩ := box6 HX.out
  obtain ⟨x10, x11, x12⟩ := box3 X1.out
  obtain ⟨x20, x21, x22⟩ := box3 X2.out
  obtain ⟨x30, x31, x32⟩ := box3 X3.out
  (try clear y10 y11 y12)
  obtain ⟨y10, y11, y12⟩ := box3 G1.out
  (try clear y20 y21 y22)
  obtain ⟨y20, y21, y22⟩ := box3 G2.out
  (try clear y30 y31 y32)
  obtain ⟨y30, y31, y32⟩ := box3 G3.out
  obtain ⟨y40, y41, y42⟩ := box3 G4.out
  go_wp2_with (first
    | (go_at_call 27; (with_reducible refine (spec_SameRange.calls (p0 : Int) (p3 : Int) B2 d2 labc (p0 : Int) (p3 : Int) B4 d4 labc true _ C2.out D2.out C4.out D4.out SR.out).mono ?_); rintro en wx ⟨rfl, hb⟩; have HBn := Aside0.mk (below_then HB.out HB.out.size hb); have HXn := Aside0.mk (blk_below HX.out hb); have X1n := Aside0.mk (blk_below X1.out hb); have X2n := Aside0.mk (blk_below X2.out hb); have X3n := Aside0.mk (blk_below X3.out hb); have G1n := Aside0.mk (blk_below G1.out hb); have G2n := Aside0.mk (blk_below G2.out hb); have G3n := Aside0.mk (blk_below G3.out hb); have G4n := Aside0.mk (blk_below G4.out hb); have C1n := Aside0.mk (Kd.C_below C1.out hb); have C2n := Aside0.mk (Kd.C_below C2.out hb); have C3n := Aside0.mk (Kd.C_below C3.out hb); have C4n := Aside0.mk (Kd.C_below C4.out hb); clear hb HB HX X1 X2 X3 G1 G2 G3 G4 C1 C2 C3 C4; have HB := HBn; have HX := HXn; have X1 := X1n; have X2 := X2n; have X3 := X3n; have G1 := G1n; have G2 := G2n; have G3 := G3n; have G4 := G4n; have C1 := C1n; have C2 := C2n; have C3 := C3n; have C4 := C4n; clear HBn HXn X1n X2n X3n G1n G2n G3n G4n C1n C2n C3n C4n; (try clear hk0 hk1 hk2 hk3 hk4 hk5 x10 x11 x12 x20 x21 x22 x30 x31 x32); obtain ⟨hk0, hk1, hk2, hk3, hk4, hk5⟩ := box6 HX.out; obtain ⟨x10, x11, x12⟩ := box3 X1.out; obtain ⟨x20, x21, x22⟩ := box3 X2.out; obtain ⟨x30, x31, x32⟩ := box3 X3.out; (try clear y10 y11 y12); obtain ⟨y10, y11, y12⟩ := box3 G1.out; (try clear y20 y21 y22); obtain ⟨y20, y21, y22⟩ := box3 G2.out; (try clear y30 y31 y32); obtain ⟨y30, y31, y32⟩ := box3 G3.out; (try clear y40 y41 y42); obtain ⟨y40, y41, y42⟩ := box3 G4.out))
  go_ret
  exact ⟨rfl, HB.out⟩

set_option maxHeartbeats 8000000 in
set_option maxRecDepth 100000 in
theorem mg12 (K : Nat) (a0 a1 a2 a3 a4 a5 : Int) (p0 p1 p2 p3 : Nat) (A1 : Option Addr) (c1 : Nat) (l1 : List (List Int)) (A2 : Option Addr) (c2 : Nat) (l2 : List (List Int)) (A3 : Option Addr) (c3 : Nat) (l3 : List (List Int)) (w : World) (h1 : CL w A1 l1) (n1 : l1.length ≤ c1) (h2 : CL w A2 l2) (n2 : l2.length ≤ c2) (h3 : CL w A3 l3) (n3 : l3.length ≤ c3) (z1_ : laws_zzFits7.f K (p0 : Int) (p1 : Int) l1 = some true) (z2_ : laws_zzFits7.f K (p1 : Int) (p2 : Int) l2 = some true) (z3_ : laws_zzFits7.f K (p2 : Int) (p3 : Int) l3 = some true) (r1_ : laws_rangeFair.f K (p0 : Int) (p1 : Int) l1 = some true) (r2_ : laws_rangeFair.f K (p1 : Int) (p2 : Int) l2 = some true) (r3_ : laws_rangeFair.f K (p2 : Int) (p3 : Int) l3 = some true) (q3 : (p1 == 0) = false) (q3i : ((p1 : Int) == 0) = false) (HG_ : Glob w) (k : Nat) (lab labc lbc : List (List Int)) (o1 : ArOk a0 a1 a2 a3 a4 a5 p0 p1 p2 l1 l2 lab k) (o2 : ArOk a0 a1 a2 a3 a4 a5 p0 p2 p3 lab l3 labc k) (o3 : ArOk a0 a1 a2 a3 a4 a5 p1 p2 p3 l2 l3 lbc k) (o4 : ArOk a0 a1 a2 a3 a4 a5 p0 p1 p3 l1 lbc labc k) (sr : spec_SameRange.f (p0 : Int) (p3 : Int) labc (p0 : Int) (p3 : Int) labc = some true) (q5 : (IntKind.u64.wrap ((p3 : Int) - (p2 : Int)) != 1) = false) (hp3 : p2 + 1 = p3) (o5 : ApOk1 a0 a1 a2 a3 a4 a5 p0 p2 lab l3 labc k) :
    Calls Tryd.prog 8 #[.agg #[.int .i64 a0, .int .i64 a1, .int .i64 a2, .int .u64 a3, .int .u64 a4, .int .u64 a5], .agg #[.int .u64 (p0 : Nat), .int .u64 (p1 : Nat), .slice A1 l1.length c1], .agg #[.int .u64 (p1 : Nat), .int .u64 (p2 : Nat), .slice A2 l2.length c2], .agg #[.int .u64 (p2 : Nat), .int .u64 (p3 : Nat), .slice A3 l3.length c3]] w fun en w' => en = .returned (.bool true) ∧ Below w.heap.size w w' := by
  have h1_ := Aside0.mk h1
  clear h1
  have h2_ := Aside0.mk h2
  clear h2
  have h3_ := Aside0.mk h3
  clear h3
  have _u := And.intro n1 (And.intro n2 (And.intro n3 (Eq.refl K)))
  clear _u
  obtain ⟨hB0, hX0, hX1, hX2, hX3⟩ := allocs4' w #[.int .i64 a0, .int .i64 a1, .int .i64 a2, .int .u64 a3, .int .u64 a4, .int .u64 a5] 24 #[.int .u64 (p0 : Nat), .int .u64 (p1 : Nat), .slice A1 l1.length c1] 35 #[.int .u64 (p1 : Nat), .int .u64 (p2 : Nat), .slice A2 l2.length c2] 35 #[.int .u64 (p2 : Nat), .int .u64 (p3 : Nat), .slice A3 l3.length c3] 35
  have HB := Aside0.mk hB0
  have HX := Aside0.mk hX0
  have X1 := Aside0.mk hX1
  have X2 := Aside0.mk hX2
  have X3 := Aside0.mk hX3
  clear hB0 hX0 hX1 hX2 hX3
  have Z1 := Aside0.mk z1_
  clear z1_
  have Z2 := Aside0.mk z2_
  clear z2_
  have Z3 := Aside0.mk z3_
  clear z3_
  have R1 := Aside0.mk r1_
  clear r1_
  have R2 := Aside0.mk r2_
  clear r2_
  have R3 := Aside0.mk r3_
  clear r3_
  have HG := Aside0.mk HG_
  clear HG_
  have O1 := Aside0.mk o1
  clear o1
  have O2 := Aside0.mk o2
  clear o2
  have O3 := Aside0.mk o3
  clear o3
  have O4 := Aside0.mk o4
  clear o4
  have SR := Aside0.mk sr
  clear sr
  have O5 := Aside0.mk o5
  clear o5
  have HP3 := Aside0.mk hp3
  clear hp3
  have _v := And.intro q3 (And.intro q3i (Eq.refl K))
  clear _v
  go_enter Tryd.func8, Tryd.ntmps8
  go_wp2_with fail
  (try generalize ((((w.alloc (.cells #[.int .i64 a0, .int .i64 a1, .int .i64 a2, .int .u64 a3, .int .u64 a4, .int .u64 a5] 24)).alloc (.cells #[.int .u64 (p0 : Nat), .int .u64 (p1 : Nat), .slice A1 l1.length c1] 35)).alloc (.cells #[.int .u64 (p1 : Nat), .int .u64 (p2 : Nat), .slice A2 l2.length c2] 35)).alloc (.cells #[.int .u64 (p2 : Nat), .int .u64 (p3 : Nat), .slice A3 l3.length c3] 35)) = wA at HB HX X1 X2 X3 ⊢)
  (try clear hk0 hk1 hk2 hk3 hk4 hk5 x10 x11 x12 x20 x21 x22 x30 x31 x32)
  obtain ⟨hk0, hk1, hk2, hk3, hk4, hk5⟩ := box6 HX.out
  obtain ⟨x10, x11, x12⟩ := box3 X1.out
  obtain ⟨x20, x21, x22⟩ := box3 X2.out
  obtain ⟨x30, x31, x32⟩ := box3 X3.out
  go_wp2_with (first
    | (go_at_call 19; (with_reducible refine (laws_zzFits7.calls K (p0 : Int) (p1 : Int) A1 c1 l1 _ _ (Kd.C_below h1_.out HB.out) n1 Z1.out).mono ?_); rintro en wz1 ⟨rfl, hb⟩; have HBn := Aside0.mk (below_then HB.out HB.out.size hb); have HXn := Aside0.mk (blk_below HX.out hb); have X1n := Aside0.mk (blk_below X1.out hb); have X2n := Aside0.mk (blk_below X2.out hb); have X3n := Aside0.mk (blk_below X3.out hb); clear hb HB HX X1 X2 X3; have HB := HBn; have HX := HXn; have X1 := X1n; have X2 := X2n; have X3 := X3n; clear HBn HXn X1n X2n X3n; (try clear hk0 hk1 hk2 hk3 hk4 hk5 x10 x11 x12 x20 x21 x22 x30 x31 x32); obtain ⟨hk0, hk1, hk2, hk3, hk4, hk5⟩ := box6 HX.out; obtain ⟨x10, x11, x12⟩ := box3 X1.out; obtain ⟨x20, x21, x22⟩ := box3 X2.out; obtain ⟨x30, x31, x32⟩ := box3 X3.out)
    | (go_at_call 19; (with_reducible refine (laws_zzFits7.calls K (p1 : Int) (p2 : Int) A2 c2 l2 _ _ (Kd.C_below h2_.out HB.out) n2 Z2.out).mono ?_); rintro en wz2 ⟨rfl, hb⟩; have HBn := Aside0.mk (below_then HB.out HB.out.size hb); have HXn := Aside0.mk (blk_below HX.out hb); have X1n := Aside0.mk (blk_below X1.out hb); have X2n := Aside0.mk (blk_below X2.out hb); have X3n := Aside0.mk (blk_below X3.out hb); clear hb HB HX X1 X2 X3; have HB := HBn; have HX := HXn; have X1 := X1n; have X2 := X2n; have X3 := X3n; clear HBn HXn X1n X2n X3n; (try clear hk0 hk1 hk2 hk3 hk4 hk5 x10 x11 x12 x20 x21 x22 x30 x31 x32); obtain ⟨hk0, hk1, hk2, hk3, hk4, hk5⟩ := box6 HX.out; obtain ⟨x10, x11, x12⟩ := box3 X1.out; obtain ⟨x20, x21, x22⟩ := box3 X2.out; obtain ⟨x30, x31, x32⟩ := box3 X3.out)
    | (go_at_call 19; (with_reducible refine (laws_zzFits7.calls K (p2 : Int) (p3 : Int) A3 c3 l3 _ _ (Kd.C_below h3_.out HB.out) n3 Z3.out).mono ?_); rintro en wz3 ⟨rfl, hb⟩; have HBn := Aside0.mk (below_then HB.out HB.out.size hb); have HXn := Aside0.mk (blk_below HX.out hb); have X1n := Aside0.mk (blk_below X1.out hb); have X2n := Aside0.mk (blk_below X2.out hb); have X3n := Aside0.mk (blk_below X3.out hb); clear hb HB HX X1 X2 X3; have HB := HBn; have HX := HXn; have X1 := X1n; have X2 := X2n; have X3 := X3n; clear HBn HXn X1n X2n X3n; (try clear hk0 hk1 hk2 hk3 hk4 hk5 x10 x11 x12 x20 x21 x22 x30 x31 x32); obtain ⟨hk0, hk1, hk2, hk3, hk4, hk5⟩ := box6 HX.out; obtain ⟨x10, x11, x12⟩ := box3 X1.out; obtain ⟨x20, x21, x22⟩ := box3 X2.out; obtain ⟨x30, x31, x32⟩ := box3 X3.out)
    | (go_at_call 20; (with_reducible refine (laws_rangeFair.calls K (p0 : Int) (p1 : Int) A1 c1 l1 _ _ (Kd.C_below h1_.out HB.out) n1 R1.out).mono ?_); rintro en wr1 ⟨rfl, hb⟩; have HBn := Aside0.mk (below_then HB.out HB.out.size hb); have HXn := Aside0.mk (blk_below HX.out hb); have X1n := Aside0.mk (blk_below X1.out hb); have X2n := Aside0.mk (blk_below X2.out hb); have X3n := Aside0.mk (blk_below X3.out hb); clear hb HB HX X1 X2 X3; have HB := HBn; have HX := HXn; have X1 := X1n; have X2 := X2n; have X3 := X3n; clear HBn HXn X1n X2n X3n; (try clear hk0 hk1 hk2 hk3 hk4 hk5 x10 x11 x12 x20 x21 x22 x30 x31 x32); obtain ⟨hk0, hk1, hk2, hk3, hk4, hk5⟩ := box6 HX.out; obtain ⟨x10, x11, x12⟩ := box3 X1.out; obtain ⟨x20, x21, x22⟩ := box3 X2.out; obtain ⟨x30, x31, x32⟩ := box3 X3.out)
    | (go_at_call 20; (with_reducible refine (laws_rangeFair.calls K (p1 : Int) (p2 : Int) A2 c2 l2 _ _ (Kd.C_below h2_.out HB.out) n2 R2.out).mono ?_); rintro en wr2 ⟨rfl, hb⟩; have HBn := Aside0.mk (below_then HB.out HB.out.size hb); have HXn := Aside0.mk (blk_below HX.out hb); have X1n := Aside0.mk (blk_below X1.out hb); have X2n := Aside0.mk (blk_below X2.out hb); have X3n := Aside0.mk (blk_below X3.out hb); clear hb HB HX X1 X2 X3; have HB := HBn; have HX := HXn; have X1 := X1n; have X2 := X2n; have X3 := X3n; clear HBn HXn X1n X2n X3n; (try clear hk0 hk1 hk2 hk3 hk4 hk5 x10 x11 x12 x20 x21 x22 x30 x31 x32); obtain ⟨hk0, hk1, hk2, hk3, hk4, hk5⟩ := box6 HX.out; obtain ⟨x10, x11, x12⟩ := box3 X1.out; obtain ⟨x20, x21, x22⟩ := box3 X2.out; obtain ⟨x30, x31, x32⟩ := box3 X3.out)
    | (go_at_call 20; (with_reducible refine (laws_rangeFair.calls K (p2 : Int) (p3 : Int) A3 c3 l3 _ _ (Kd.C_below h3_.out HB.out) n3 R3.out).mono ?_); rintro en wr3 ⟨rfl, hb⟩; have HBn := Aside0.mk (below_then HB.out HB.out.size hb); have HXn := Aside0.mk (blk_below HX.out hb); have X1n := Aside0.mk (blk_below X1.out hb); have X2n := Aside0.mk (blk_below X2.out hb); have X3n := Aside0.mk (blk_below X3.out hb); clear hb HB HX X1 X2 X3; have HB := HBn; have HX := HXn; have X1 := X1n; have X2 := X2n; have X3 := X3n; clear HBn HXn X1n X2n X3n; (try clear hk0 hk1 hk2 hk3 hk4 hk5 x10 x11 x12 x20 x21 x22 x30 x31 x32); obtain ⟨hk0, hk1, hk2, hk3, hk4, hk5⟩ := box6 HX.out; obtain ⟨x10, x11, x12⟩ := box3 X1.out; obtain ⟨x20, x21, x22⟩ := box3 X2.out; obtain ⟨x30, x31, x32⟩ := box3 X3.out))
  go_wp2_with (first
    | (go_at_call 33; (with_reducible refine (O1.out.calls (Kd.C_below h1_.out HB.out) n1 (Kd.C_below h2_.out HB.out) n2 (Glob.below HG.out HB.out)).mono ?_); rintro en u1 ⟨B1, d1, vs1, rfl, hd, hC, hb⟩; have D1 := Aside0.mk hd; have C1z := Aside0.mk hC; clear hd hC; have HBn := Aside0.mk (below_then HB.out HB.out.size hb); have HXn := Aside0.mk (blk_below HX.out hb); have X1n := Aside0.mk (blk_below X1.out hb); have X2n := Aside0.mk (blk_below X2.out hb); have X3n := Aside0.mk (blk_below X3.out hb); clear hb HB HX X1 X2 X3; have HB := HBn; have HX := HXn; have X1 := X1n; have X2 := X2n; have X3 := X3n; clear HBn HXn X1n X2n X3n; (try clear hk0 hk1 hk2 hk3 hk4 hk5 x10 x11 x12 x20 x21 x22 x30 x31 x32); obtain ⟨hk0, hk1, hk2, hk3, hk4, hk5⟩ := box6 HX.out; obtain ⟨x10, x11, x12⟩ := box3 X1.out; obtain ⟨x20, x21, x22⟩ := box3 X2.out; obtain ⟨x30, x31, x32⟩ := box3 X3.out; have hltHX := lt_of_block HX.out; have hltX1 := lt_of_block X1.out; have hltX2 := lt_of_block X2.out; have hltX3 := lt_of_block X3.out))
  have hS : (u1.alloc (.cells #[.int .u64 (p0 : Nat), .int .u64 (p2 : Nat), (.slice B1 lab.length d1)] 35)).heap[u1.heap.size]? = some (.cells #[.int .u64 (p0 : Nat), .int .u64 (p2 : Nat), (.slice B1 lab.length d1)] 35 (0, 0)) := heap_alloc_new _ _
  have hb : Below u1.heap.size u1 (u1.alloc (.cells #[.int .u64 (p0 : Nat), .int .u64 (p2 : Nat), (.slice B1 lab.length d1)] 35)) := below_alloc (Below.refl _ _) _
  generalize hgs : u1.heap.size = g1 at hS ⊢
  generalize (u1.alloc (.cells #[.int .u64 (p0 : Nat), .int .u64 (p2 : Nat), (.slice B1 lab.length d1)] 35)) = v1 at hS hb ⊢
  have C1 := Aside0.mk (Kd.C_below C1z.out hb)
  have G1 : Aside0 (v1.heap[g1]? = some (.cells #[.int .u64 (p0 : Nat), .int .u64 (p2 : Nat), (.slice B1 lab.length d1)] 35 (0, 0))) := ⟨hS⟩
  clear hS C1z
  clear hltHX hltX1 hltX2 hltX3
  have HBn := Aside0.mk (below_then HB.out HB.out.size hb)
  have HXn := Aside0.mk (blk_below HX.out hb)
  have X1n := Aside0.mk (blk_below X1.out hb)
  have X2n := Aside0.mk (blk_below X2.out hb)
  have X3n := Aside0.mk (blk_below X3.out hb)
  clear hb HB HX X1 X2 X3
  have HB := HBn
  have HX := HXn
  have X1 := X1n
  have X2 := X2n
  have X3 := X3n
  clear HBn HXn X1n X2n X3n
  (try clear hk0 hk1 hk2 hk3 hk4 hk5 x10 x11 x12 x20 x21 x22 x30 x31 x32)
  obtain ⟨hk0, hk1, hk2, hk3, hk4, hk5⟩ := box6 HX.out
  obtain ⟨x10, x11, x12⟩ := box3 X1.out
  obtain ⟨x20, x21, x22⟩ := box3 X2.out
  obtain ⟨x30, x31, x32⟩ := box3 X3.out
  obtain ⟨y10, y11, y12⟩ := box3 G1.out
  go_wp2_with (first
    | (go_at_call 33; (with_reducible refine (O2.out.calls C1.out D1.out (Kd.C_below h3_.out HB.out) n3 (Glob.below HG.out HB.out)).mono ?_); rintro en u2 ⟨B2, d2, vs2, rfl, hd, hC, hb⟩; have D2 := Aside0.mk hd; have C2z := Aside0.mk hC; clear hd hC; have HBn := Aside0.mk (below_then HB.out HB.out.size hb); have HXn := Aside0.mk (blk_below HX.out hb); have X1n := Aside0.mk (blk_below X1.out hb); have X2n := Aside0.mk (blk_below X2.out hb); have X3n := Aside0.mk (blk_below X3.out hb); have G1n := Aside0.mk (blk_below G1.out hb); have C1n := Aside0.mk (Kd.C_below C1.out hb); clear hb HB HX X1 X2 X3 G1 C1; have HB := HBn; have HX := HXn; have X1 := X1n; have X2 := X2n; have X3 := X3n; have G1 := G1n; have C1 := C1n; clear HBn HXn X1n X2n X3n G1n C1n; (try clear hk0 hk1 hk2 hk3 hk4 hk5 x10 x11 x12 x20 x21 x22 x30 x31 x32); obtain ⟨hk0, hk1, hk2, hk3, hk4, hk5⟩ := box6 HX.out; obtain ⟨x10, x11, x12⟩ := box3 X1.out; obtain ⟨x20, x21, x22⟩ := box3 X2.out; obtain ⟨x30, x31, x32⟩ := box3 X3.out; (try clear y10 y11 y12); obtain ⟨y10, y11, y12⟩ := box3 G1.out; have hltHX := lt_of_block HX.out; have hltX1 := lt_of_block X1.out; have hltX2 := lt_of_block X2.out; have hltX3 := lt_of_block X3.out; have hltG1 := lt_of_block G1.out))
  have hS : (u2.alloc (.cells #[.int .u64 (p0 : Nat), .int .u64 (p3 : Nat), (.slice B2 labc.length d2)] 35)).heap[u2.heap.size]? = some (.cells #[.int .u64 (p0 : Nat), .int .u64 (p3 : Nat), (.slice B2 labc.length d2)] 35 (0, 0)) := heap_alloc_new _ _
  have hb : Below u2.heap.size u2 (u2.alloc (.cells #[.int .u64 (p0 : Nat), .int .u64 (p3 : Nat), (.slice B2 labc.length d2)] 35)) := below_alloc (Below.refl _ _) _
  generalize hgs : u2.heap.size = g2 at hS ⊢
  generalize (u2.alloc (.cells #[.int .u64 (p0 : Nat), .int .u64 (p3 : Nat), (.slice B2 labc.length d2)] 35)) = v2 at hS hb ⊢
  have C2 := Aside0.mk (Kd.C_below C2z.out hb)
  have G2 : Aside0 (v2.heap[g2]? = some (.cells #[.int .u64 (p0 : Nat), .int .u64 (p3 : Nat), (.slice B2 labc.length d2)] 35 (0, 0))) := ⟨hS⟩
  clear hS C2z
  clear hltHX hltX1 hltX2 hltX3 hltG1
  have HBn := Aside0.mk (below_then HB.out HB.out.size hb)
  have HXn := Aside0.mk (blk_below HX.out hb)
  have X1n := Aside0.mk (blk_below X1.out hb)
  have X2n := Aside0.mk (blk_below X2.out hb)
  have X3n := Aside0.mk (blk_below X3.out hb)
  have G1n := Aside0.mk (blk_below G1.out hb)
  have C1n := Aside0.mk (Kd.C_below C1.out hb)
  clear hb HB HX X1 X2 X3 G1 C1
  have HB := HBn
  have HX := HXn
  have X1 := X1n
  have X2 := X2n
  have X3 := X3n
  have G1 := G1n
  have C1 := C1n
  clear HBn HXn X1n X2n X3n G1n C1n
  (try clear hk0 hk1 hk2 hk3 hk4 hk5 x10 x11 x12 x20 x21 x22 x30 x31 x32)
  obtain ⟨hk0, hk1, hk2, hk3, hk4, hk5⟩ := box6 HX.out
  obtain ⟨x10, x11, x12⟩ := box3 X1.out
  obtain ⟨x20, x21, x22⟩ := box3 X2.out
  obtain ⟨x30, x31, x32⟩ := box3 X3.out
  (try clear y10 y11 y12)
  obtain ⟨y10, y11, y12⟩ := box3 G1.out
  obtain ⟨y20, y21, y22⟩ := box3 G2.out
  go_wp2_with (first
    | (go_at_call 33; (with_reducible refine (O3.out.calls (Kd.C_below h2_.out HB.out) n2 (Kd.C_below h3_.out HB.out) n3 (Glob.below HG.out HB.out)).mono ?_); rintro en u3 ⟨B3, d3, vs3, rfl, hd, hC, hb⟩; have D3 := Aside0.mk hd; have C3z := Aside0.mk hC; clear hd hC; have HBn := Aside0.mk (below_then HB.out HB.out.size hb); have HXn := Aside0.mk (blk_below HX.out hb); have X1n := Aside0.mk (blk_below X1.out hb); have X2n := Aside0.mk (blk_below X2.out hb); have X3n := Aside0.mk (blk_below X3.out hb); have G1n := Aside0.mk (blk_below G1.out hb); have G2n := Aside0.mk (blk_below G2.out hb); have C1n := Aside0.mk (Kd.C_below C1.out hb); have C2n := Aside0.mk (Kd.C_below C2.out hb); clear hb HB HX X1 X2 X3 G1 G2 C1 C2; have HB := HBn; have HX := HXn; have X1 := X1n; have X2 := X2n; have X3 := X3n; have G1 := G1n; have G2 := G2n; have C1 := C1n; have C2 := C2n; clear HBn HXn X1n X2n X3n G1n G2n C1n C2n; (try clear hk0 hk1 hk2 hk3 hk4 hk5 x10 x11 x12 x20 x21 x22 x30 x31 x32); obtain ⟨hk0, hk1, hk2, hk3, hk4, hk5⟩ := box6 HX.out; obtain ⟨x10, x11, x12⟩ := box3 X1.out; obtain ⟨x20, x21, x22⟩ := box3 X2.out; obtain ⟨x30, x31, x32⟩ := box3 X3.out; (try clear y10 y11 y12); obtain ⟨y10, y11, y12⟩ := box3 G1.out; (try clear y20 y21 y22); obtain ⟨y20, y21, y22⟩ := box3 G2.out; have hltHX := lt_of_block HX.out; have hltX1 := lt_of_block X1.out; have hltX2 := lt_of_block X2.out; have hltX3 := lt_of_block X3.out; have hltG1 := lt_of_block G1.out; have hltG2 := lt_of_block G2.out))
  have hS : (u3.alloc (.cells #[.int .u64 (p1 : Nat), .int .u64 (p3 : Nat), (.slice B3 lbc.length d3)] 35)).heap[u3.heap.size]? = some (.cells #[.int .u64 (p1 : Nat), .int .u64 (p3 : Nat), (.slice B3 lbc.length d3)] 35 (0, 0)) := heap_alloc_new _ _
  have hb : Below u3.heap.size u3 (u3.alloc (.cells #[.int .u64 (p1 : Nat), .int .u64 (p3 : Nat), (.slice B3 lbc.length d3)] 35)) := below_alloc (Below.refl _ _) _
  generalize hgs : u3.heap.size = g3 at hS ⊢
  generalize (u3.alloc (.cells #[.int .u64 (p1 : Nat), .int .u64 (p3 : Nat), (.slice B3 lbc.length d3)] 35)) = v3 at hS hb ⊢
  have C3 := Aside0.mk (Kd.C_below C3z.out hb)
  have G3 : Aside0 (v3.heap[g3]? = some (.cells #[.int .u64 (p1 : Nat), .int .u64 (p3 : Nat), (.slice B3 lbc.length d3)] 35 (0, 0))) := ⟨hS⟩
  clear hS C3z
  clear hltHX hltX1 hltX2 hltX3 hltG1 hltG2
  have HBn := Aside0.mk (below_then HB.out HB.out.size hb)
  have HXn := Aside0.mk (blk_below HX.out hb)
  have X1n := Aside0.mk (blk_below X1.out hb)
  have X2n := Aside0.mk (blk_below X2.out hb)
  have X3n := Aside0.mk (blk_below X3.out hb)
  have G1n := Aside0.mk (blk_below G1.out hb)
  have G2n := Aside0.mk (blk_below G2.out hb)
  have C1n := Aside0.mk (Kd.C_below C1.out hb)
  have C2n := Aside0.mk (Kd.C_below C2.out hb)
  clear hb HB HX X1 X2 X3 G1 G2 C1 C2
  have HB := HBn
  have HX := HXn
  have X1 := X1n
  have X2 := X2n
  have X3 := X3n
  have G1 := G1n
  have G2 := G2n
  have C1 := C1n
  have C2 := C2n
  clear HBn HXn X1n X2n X3n G1n G2n C1n C2n
  (try clear hk0 hk1 hk2 hk3 hk4 hk5 x10 x11 x12 x20 x21 x22 x30 x31 x32)
  obtain ⟨hk0, hk1, hk2, hk3, hk4, hk5⟩ := box6 HX.out
  obtain ⟨x10, x11, x12⟩ := box3 X1.out
  obtain ⟨x20, x21, x22⟩ := box3 X2.out
  obtain ⟨x30, x31, x32⟩ := box3 X3.out
  (try clear y10 y11 y12)
  obtain ⟨y10, y11, y12⟩ := box3 G1.out
  (try clear y20 y21 y22)
  obtain ⟨y20, y21, y22⟩ := box3 G2.out
  obtain ⟨y30, y31, y32⟩ := box3 G3.out
  go_wp2_with (first
    | (go_at_call 33; (with_reducible refine (O4.out.calls (Kd.C_below h1_.out HB.out) n1 C3.out D3.out (Glob.below HG.out HB.out)).mono ?_); rintro en u4 ⟨B4, d4, vs4, rfl, hd, hC, hb⟩; have D4 := Aside0.mk hd; have C4z := Aside0.mk hC; clear hd hC; have HBn := Aside0.mk (below_then HB.out HB.out.size hb); have HXn := Aside0.mk (blk_below HX.out hb); have X1n := Aside0.mk (blk_below X1.out hb); have X2n := Aside0.mk (blk_below X2.out hb); have X3n := Aside0.mk (blk_below X3.out hb); have G1n := Aside0.mk (blk_below G1.out hb); have G2n := Aside0.mk (blk_below G2.out hb); have G3n := Aside0.mk (blk_below G3.out hb); have C1n := Aside0.mk (Kd.C_below C1.out hb); have C2n := Aside0.mk (Kd.C_below C2.out hb); have C3n := Aside0.mk (Kd.C_below C3.out hb); clear hb HB HX X1 X2 X3 G1 G2 G3 C1 C2 C3; have HB := HBn; have HX := HXn; have X1 := X1n; have X2 := X2n; have X3 := X3n; have G1 := G1n; have G2 := G2n; have G3 := G3n; have C1 := C1n; have C2 := C2n; have C3 := C3n; clear HBn HXn X1n X2n X3n G1n G2n G3n C1n C2n C3n; (try clear hk0 hk1 hk2 hk3 hk4 hk5 x10 x11 x12 x20 x21 x22 x30 x31 x32); obtain ⟨hk0, hk1, hk2, hk3, hk4, hk5⟩ := box6 HX.out; obtain ⟨x10, x11, x12⟩ := box3 X1.out; obtain ⟨x20, x21, x22⟩ := box3 X2.out; obtain ⟨x30, x31, x32⟩ := box3 X3.out; (try clear y10 y11 y12); obtain ⟨y10, y11, y12⟩ := box3 G1.out; (try clear y20 y21 y22); obtain ⟨y20, y21, y22⟩ := box3 G2.out; (try clear y30 y31 y32); obtain ⟨y30, y31, y32⟩ := box3 G3.out; have hltHX := lt_of_block HX.out; have hltX1 := lt_of_block X1.out; have hltX2 := lt_of_block X2.out; have hltX3 := lt_of_block X3.out; have hltG1 := lt_of_block G1.out; have hltG2 := lt_of_block G2.out; have hltG3 := lt_of_block G3.out))
  have hS : (u4.alloc (.cells #[.int .u64 (p0 : Nat), .int .u64 (p3 : Nat), (.slice B4 labc.length d4)] 35)).heap[u4.heap.size]? = some (.cells #[.int .u64 (p0 : Nat), .int .u64 (p3 : Nat), (.slice B4 labc.length d4)] 35 (0, 0)) := heap_alloc_new _ _
  have hb : Below u4.heap.size u4 (u4.alloc (.cells #[.int .u64 (p0 : Nat), .int .u64 (p3 : Nat), (.slice B4 labc.length d4)] 35)) := below_alloc (Below.refl _ _) _
  generalize hgs : u4.heap.size = g4 at hS ⊢
  generalize (u4.alloc (.cells #[.int .u64 (p0 : Nat), .int .u64 (p3 : Nat), (.slice B4 labc.length d4)] 35)) = v4 at hS hb ⊢
  have C4 := Aside0.mk (Kd.C_below C4z.out hb)
  have G4 : Aside0 (v4.heap[g4]? = some (.cells #[.int .u64 (p0 : Nat), .int .u64 (p3 : Nat), (.slice B4 labc.length d4)] 35 (0, 0))) := ⟨hS⟩
  clear hS C4z
  clear hltHX hltX1 hltX2 hltX3 hltG1 hltG2 hltG3
  have HBn := Aside0.mk (below_then HB.out HB.out.size hb)
  have HXn := Aside0.mk (blk_below HX.out hb)
  have X1n := Aside0.mk (blk_below X1.out hb)
  have X2n := Aside0.mk (blk_below X2.out hb)
  have X3n := Aside0.mk (blk_below X3.out hb)
  have G1n := Aside0.mk (blk_below G1.out hb)
  have G2n := Aside0.mk (blk_below G2.out hb)
  have G3n := Aside0.mk (blk_below G3.out hb)
  have C1n := Aside0.mk (Kd.C_below C1.out hb)
  have C2n := Aside0.mk (Kd.C_below C2.out hb)
  have C3n := Aside0.mk (Kd.C_below C3.out hb)
  clear hb HB HX X1 X2 X3 G1 G2 G3 C1 C2 C3
  have HB := HBn
  have HX := HXn
  have X1 := X1n
  have X2 := X2n
  have X3 := X3n
  have G1 := G1n
  have G2 := G2n
  have G3 := G3n
  have C1 := C1n
  have C2 := C2n
  have C3 := C3n
  clear HBn HXn X1n X2n X3n G1n G2n G3n C1n C2n C3n
  (try clear hk0 hk1 hk2 hk3 hk4 hk5 x10 x11 x12 x20 x21 x22 x30 x31 x32)
  obtain ⟨hk0, hk1, hk2, hk3, hk4, hk5⟩ := box6 HX.out
  obtain ⟨x10, x11, x12⟩ := box3 X1.out
  obtain ⟨x20, x21, x22⟩ := box3 X2.out
  obtain ⟨x30, x31, x32⟩ := box3 X3.out
  (try clear y10 y11 y12)
  obtain ⟨y10, y11, y12⟩ := box3 G1.out
  (try clear y20 y21 y22)
  obtain ⟨y20, y21, y22⟩ := box3 G2.out
  (try clear y30 y31 y32)
  obtain ⟨y30, y31, y32⟩ := box3 G3.out
  obtain ⟨y40, y41, y42⟩ := box3 G4.out
  go_wp2_with (first
    | (go_at_call 27; (with_reducible refine (spec_SameRange.calls (p0 : Int) (p3 : Int) B2 d2 labc (p0 : Int) (p3 : Int) B4 d4 labc true _ C2.out D2.out C4.out D4.out SR.out).mono ?_); rintro en wx ⟨rfl, hb⟩; have HBn := Aside0.mk (below_then HB.out HB.out.size hb); have HXn := Aside0.mk (blk_below HX.out hb); have X1n := Aside0.mk (blk_below X1.out hb); have X2n := Aside0.mk (blk_below X2.out hb); have X3n := Aside0.mk (blk_below X3.out hb); have G1n := Aside0.mk (blk_below G1.out hb); have G2n := Aside0.mk (blk_below G2.out hb); have G3n := Aside0.mk (blk_below G3.out hb); have G4n := Aside0.mk (blk_below G4.out hb); have C1n := Aside0.mk (Kd.C_below C1.out hb); have C2n := Aside0.mk (Kd.C_below C2.out hb); have C3n := Aside0.mk (Kd.C_below C3.out hb); have C4n := Aside0.mk (Kd.C_below C4.out hb); clear hb HB HX X1 X2 X3 G1 G2 G3 G4 C1 C2 C3 C4; have HB := HBn; have HX := HXn; have X1 := X1n; have X2 := X2n; have X3 := X3n; have G1 := G1n; have G2 := G2n; have G3 := G3n; have G4 := G4n; have C1 := C1n; have C2 := C2n; have C3 := C3n; have C4 := C4n; clear HBn HXn X1n X2n X3n G1n G2n G3n G4n C1n C2n C3n C4n; (try clear hk0 hk1 hk2 hk3 hk4 hk5 x10 x11 x12 x20 x21 x22 x30 x31 x32); obtain ⟨hk0, hk1, hk2, hk3, hk4, hk5⟩ := box6 HX.out; obtain ⟨x10, x11, x12⟩ := box3 X1.out; obtain ⟨x20, x21, x22⟩ := box3 X2.out; obtain ⟨x30, x31, x32⟩ := box3 X3.out; (try clear y10 y11 y12); obtain ⟨y10, y11, y12⟩ := box3 G1.out; (try clear y20 y21 y22); obtain ⟨y20, y21, y22⟩ := box3 G2.out; (try clear y30 y31 y32); obtain ⟨y30, y31, y32⟩ := box3 G3.out; (try clear y40 y41 y42); obtain ⟨y40, y41, y42⟩ := box3 G4.out))
  go_wp2_with (first
    | (go_at_call 26; (with_reducible refine (O5.out.calls C1.out D1.out (Kd.C_below h3_.out HB.out) n3 (Glob.below HG.out HB.out)).mono ?_); rintro en u5 ⟨B5, d5, vs5, rfl, hd, hC, hb⟩; rw [HP3.out]; have D5 := Aside0.mk hd; have C5z := Aside0.mk hC; clear hd hC; have HBn := Aside0.mk (below_then HB.out HB.out.size hb); have HXn := Aside0.mk (blk_below HX.out hb); have X1n := Aside0.mk (blk_below X1.out hb); have X2n := Aside0.mk (blk_below X2.out hb); have X3n := Aside0.mk (blk_below X3.out hb); have G1n := Aside0.mk (blk_below G1.out hb); have G2n := Aside0.mk (blk_below G2.out hb); have G3n := Aside0.mk (blk_below G3.out hb); have G4n := Aside0.mk (blk_below G4.out hb); have C1n := Aside0.mk (Kd.C_below C1.out hb); have C2n := Aside0.mk (Kd.C_below C2.out hb); have C3n := Aside0.mk (Kd.C_below C3.out hb); have C4n := Aside0.mk (Kd.C_below C4.out hb); clear hb HB HX X1 X2 X3 G1 G2 G3 G4 C1 C2 C3 C4; have HB := HBn; have HX := HXn; have X1 := X1n; have X2 := X2n; have X3 := X3n; have G1 := G1n; have G2 := G2n; have G3 := G3n; have G4 := G4n; have C1 := C1n; have C2 := C2n; have C3 := C3n; have C4 := C4n; clear HBn HXn X1n X2n X3n G1n G2n G3n G4n C1n C2n C3n C4n; (try clear hk0 hk1 hk2 hk3 hk4 hk5 x10 x11 x12 x20 x21 x22 x30 x31 x32); obtain ⟨hk0, hk1, hk2, hk3, hk4, hk5⟩ := box6 HX.out; obtain ⟨x10, x11, x12⟩ := box3 X1.out; obtain ⟨x20, x21, x22⟩ := box3 X2.out; obtain ⟨x30, x31, x32⟩ := box3 X3.out; (try clear y10 y11 y12); obtain ⟨y10, y11, y12⟩ := box3 G1.out; (try clear y20 y21 y22); obtain ⟨y20, y21, y22⟩ := box3 G2.out; (try clear y30 y31 y32); obtain ⟨y30, y31, y32⟩ := box3 G3.out; (try clear y40 y41 y42); obtain ⟨y40, y41, y42⟩ := box3 G4.out; have hltHX := lt_of_block HX.out; have hltX1 := lt_of_block X1.out; have hltX2 := lt_of_block X2.out; have hltX3 := lt_of_block X3.out; have hltG1 := lt_of_block G1.out; have hltG2 := lt_of_block G2.out; have hltG3 := lt_of_block G3.out; have hltG4 := lt_of_block G4.out))
  have hS : (u5.alloc (.cells #[.int .u64 (p0 : Nat), .int .u64 (p3 : Nat), (.slice B5 labc.length d5)] 35)).heap[u5.heap.size]? = some (.cells #[.int .u64 (p0 : Nat), .int .u64 (p3 : Nat), (.slice B5 labc.length d5)] 35 (0, 0)) := heap_alloc_new _ _
  have hb : Below u5.heap.size u5 (u5.alloc (.cells #[.int .u64 (p0 : Nat), .int .u64 (p3 : Nat), (.slice B5 labc.length d5)] 35)) := below_alloc (Below.refl _ _) _
  generalize hgs : u5.heap.size = g5 at hS ⊢
  generalize (u5.alloc (.cells #[.int .u64 (p0 : Nat), .int .u64 (p3 : Nat), (.slice B5 labc.length d5)] 35)) = v5 at hS hb ⊢
  have C5 := Aside0.mk (Kd.C_below C5z.out hb)
  have G5 : Aside0 (v5.heap[g5]? = some (.cells #[.int .u64 (p0 : Nat), .int .u64 (p3 : Nat), (.slice B5 labc.length d5)] 35 (0, 0))) := ⟨hS⟩
  clear hS C5z
  clear hltHX hltX1 hltX2 hltX3 hltG1 hltG2 hltG3 hltG4
  have HBn := Aside0.mk (below_then HB.out HB.out.size hb)
  have HXn := Aside0.mk (blk_below HX.out hb)
  have X1n := Aside0.mk (blk_below X1.out hb)
  have X2n := Aside0.mk (blk_below X2.out hb)
  have X3n := Aside0.mk (blk_below X3.out hb)
  have G1n := Aside0.mk (blk_below G1.out hb)
  have G2n := Aside0.mk (blk_below G2.out hb)
  have G3n := Aside0.mk (blk_below G3.out hb)
  have G4n := Aside0.mk (blk_below G4.out hb)
  have C1n := Aside0.mk (Kd.C_below C1.out hb)
  have C2n := Aside0.mk (Kd.C_below C2.out hb)
  have C3n := Aside0.mk (Kd.C_below C3.out hb)
  have C4n := Aside0.mk (Kd.C_below C4.out hb)
  clear hb HB HX X1 X2 X3 G1 G2 G3 G4 C1 C2 C3 C4
  have HB := HBn
  have HX := HXn
  have X1 := X1n
  have X2 := X2n
  have X3 := X3n
  have G1 := G1n
  have G2 := G2n
  have G3 := G3n
  have G4 := G4n
  have C1 := C1n
  have C2 := C2n
  have C3 := C3n
  have C4 := C4n
  clear HBn HXn X1n X2n X3n G1n G2n G3n G4n C1n C2n C3n C4n
  (try clear hk0 hk1 hk2 hk3 hk4 hk5 x10 x11 x12 x20 x21 x22 x30 x31 x32)
  obtain ⟨hk0, hk1, hk2, hk3, hk4, hk5⟩ := box6 HX.out
  obtain ⟨x10, x11, x12⟩ := box3 X1.out
  obtain ⟨x20, x21, x22⟩ := box3 X2.out
  obtain ⟨x30, x31, x32⟩ := box3 X3.out
  (try clear y10 y11 y12)
  obtain ⟨y10, y11, y12⟩ := box3 G1.out
  (try clear y20 y21 y22)
  obtain ⟨y20, y21, y22⟩ := box3 G2.out
  (try clear y30 y31 y32)
  obtain ⟨y30, y31, y32⟩ := box3 G3.out
  (try clear y40 y41 y42)
  obtain ⟨y40, y41, y42⟩ := box3 G4.out
  obtain ⟨y50, y51, y52⟩ := box3 G5.out
  go_wp2_with (first
    | (go_at_call 27; (with_reducible refine (spec_SameRange.calls (p0 : Int) (p3 : Int) B5 d5 labc (p0 : Int) (p3 : Int) B2 d2 labc true _ C5.out D5.out C2.out D2.out SR.out).mono ?_); rintro en wy ⟨rfl, hb⟩; have HBn := Aside0.mk (below_then HB.out HB.out.size hb); have HXn := Aside0.mk (blk_below HX.out hb); have X1n := Aside0.mk (blk_below X1.out hb); have X2n := Aside0.mk (blk_below X2.out hb); have X3n := Aside0.mk (blk_below X3.out hb); have G1n := Aside0.mk (blk_below G1.out hb); have G2n := Aside0.mk (blk_below G2.out hb); have G3n := Aside0.mk (blk_below G3.out hb); have G4n := Aside0.mk (blk_below G4.out hb); have G5n := Aside0.mk (blk_below G5.out hb); have C1n := Aside0.mk (Kd.C_below C1.out hb); have C2n := Aside0.mk (Kd.C_below C2.out hb); have C3n := Aside0.mk (Kd.C_below C3.out hb); have C4n := Aside0.mk (Kd.C_below C4.out hb); have C5n := Aside0.mk (Kd.C_below C5.out hb); clear hb HB HX X1 X2 X3 G1 G2 G3 G4 G5 C1 C2 C3 C4 C5; have HB := HBn; have HX := HXn; have X1 := X1n; have X2 := X2n; have X3 := X3n; have G1 := G1n; have G2 := G2n; have G3 := G3n; have G4 := G4n; have G5 := G5n; have C1 := C1n; have C2 := C2n; have C3 := C3n; have C4 := C4n; have C5 := C5n; clear HBn HXn X1n X2n X3n G1n G2n G3n G4n G5n C1n C2n C3n C4n C5n; (try clear hk0 hk1 hk2 hk3 hk4 hk5 x10 x11 x12 x20 x21 x22 x30 x31 x32); obtain ⟨hk0, hk1, hk2, hk3, hk4, hk5⟩ := box6 HX.out; obtain ⟨x10, x11, x12⟩ := box3 X1.out; obtain ⟨x20, x21, x22⟩ := box3 X2.out; obtain ⟨x30, x31, x32⟩ := box3 X3.out; (try clear y10 y11 y12); obtain ⟨y10, y11, y12⟩ := box3 G1.out; (try clear y20 y21 y22); obtain ⟨y20, y21, y22⟩ := box3 G2.out; (try clear y30 y31 y32); obtain ⟨y30, y31, y32⟩ := box3 G3.out; (try clear y40 y41 y42); obtain ⟨y40, y41, y42⟩ := box3 G4.out; (try clear y50 y51 y52); obtain ⟨y50, y51, y52⟩ := box3 G5.out))
  go_ret
  exact ⟨rfl, HB.out⟩

set_option maxHeartbeats 8000000 in
set_option maxRecDepth 100000 in
theorem mg13 (K : Nat) (a0 a1 a2 a3 a4 a5 : Int) (p0 p1 p2 p3 : Nat) (A1 : Option Addr) (c1 : Nat) (l1 : List (List Int)) (A2 : Option Addr) (c2 : Nat) (l2 : List (List Int)) (A3 : Option Addr) (c3 : Nat) (l3 : List (List Int)) (w : World) (h1 : CL w A1 l1) (n1 : l1.length ≤ c1) (h2 : CL w A2 l2) (n2 : l2.length ≤ c2) (h3 : CL w A3 l3) (n3 : l3.length ≤ c3) (z1_ : laws_zzFits7.f K (p0 : Int) (p1 : Int) l1 = some true) (z2_ : laws_zzFits7.f K (p1 : Int) (p2 : Int) l2 = some true) (z3_ : laws_zzFits7.f K (p2 : Int) (p3 : Int) l3 = some true) (r1_ : laws_rangeFair.f K (p0 : Int) (p1 : Int) l1 = some true) (r2_ : laws_rangeFair.f K (p1 : Int) (p2 : Int) l2 = some true) (r3_ : laws_rangeFair.f K (p2 : Int) (p3 : Int) l3 = some true) (q3 : (p1 == 0) = true) (q3i : ((p1 : Int) == 0) = true) (q4 : (p3 == 18446744073709551615) = false) (q4i : ((p3 : Int) == 18446744073709551615) = false) (HG_ : Glob w) (k : Nat) (lab labc lbc : List (List Int)) (o1 : ArOk a0 a1 a2 a3 a4 a5 p0 p1 p2 l1 l2 lab k) (o2 : ArOk a0 a1 a2 a3 a4 a5 p0 p2 p3 lab l3 labc k) (o3 : ArOk a0 a1 a2 a3 a4 a5 p1 p2 p3 l2 l3 lbc k) (o4 : ArOk a0 a1 a2 a3 a4 a5 p0 p1 p3 l1 lbc labc k) (sr : spec_SameRange.f (p0 : Int) (p3 : Int) labc (p0 : Int) (p3 : Int) labc = some true) (q5 : (IntKind.u64.wrap ((p3 : Int) - (p2 : Int)) != 1) = false) (hp3 : p2 + 1 = p3) (o5 : ApOk1 a0 a1 a2 a3 a4 a5 p0 p2 lab l3 labc k) :
    Calls Tryd.prog 8 #[.agg #[.int .i64 a0, .int .i64 a1, .int .i64 a2, .int .u64 a3, .int .u64 a4, .int .u64 a5], .agg #[.int .u64 (p0 : Nat), .int .u64 (p1 : Nat), .slice A1 l1.length c1], .agg #[.int .u64 (p1 : Nat), .int .u64 (p2 : Nat), .slice A2 l2.length c2], .agg #[.int .u64 (p2 : Nat), .int .u64 (p3 : Nat), .slice A3 l3.length c3]] w fun en w' => en = .returned (.bool true) ∧ Below w.heap.size w w' := by
  have h1_ := Aside0.mk h1
  clear h1
  have h2_ := Aside0.mk h2
  clear h2
  have h3_ := Aside0.mk h3
  clear h3
  have _u := And.intro n1 (And.intro n2 (And.intro n3 (Eq.refl K)))
  clear _u
  obtain ⟨hB0, hX0, hX1, hX2, hX3⟩ := allocs4' w #[.int .i64 a0, .int .i64 a1, .int .i64 a2, .int .u64 a3, .int .u64 a4, .int .u64 a5] 24 #[.int .u64 (p0 : Nat), .int .u64 (p1 : Nat), .slice A1 l1.length c1] 35 #[.int .u64 (p1 : Nat), .int .u64 (p2 : Nat), .slice A2 l2.length c2] 35 #[.int .u64 (p2 : Nat), .int .u64 (p3 : Nat), .slice A3 l3.length c3] 35
  have HB := Aside0.mk hB0
  have HX := Aside0.mk hX0
  have X1 := Aside0.mk hX1
  have X2 := Aside0.mk hX2
  have X3 := Aside0.mk hX3
  clear hB0 hX0 hX1 hX2 hX3
  have Z1 := Aside0.mk z1_
  clear z1_
  have Z2 := Aside0.mk z2_
  clear z2_
  have Z3 := Aside0.mk z3_
  clear z3_
  have R1 := Aside0.mk r1_
  clear r1_
  have R2 := Aside0.mk r2_
  clear r2_
  have R3 := Aside0.mk r3_
  clear r3_
  have HG := Aside0.mk HG_
  clear HG_
  have O1 := Aside0.mk o1
  clear o1
  have O2 := Aside0.mk o2
  clear o2
  have O3 := Aside0.mk o3
  clear o3
  have O4 := Aside0.mk o4
  clear o4
  have SR := Aside0.mk sr
  clear sr
  have O5 := Aside0.mk o5
  clear o5
  have HP3 := Aside0.mk hp3
  clear hp3
  have _v := And.intro q3 (And.intro q3i (And.intro q4 (And.intro q4i (Eq.refl K))))
  clear _v
  go_enter Tryd.func8, Tryd.ntmps8
  go_wp2_with fail
  (try generalize ((((w.alloc (.cells #[.int .i64 a0, .int .i64 a1, .int .i64 a2, .int .u64 a3, .int .u64 a4, .int .u64 a5] 24)).alloc (.cells #[.int .u64 (p0 : Nat), .int .u64 (p1 : Nat), .slice A1 l1.length c1] 35)).alloc (.cells #[.int .u64 (p1 : Nat), .int .u64 (p2 : Nat), .slice A2 l2.length c2] 35)).alloc (.cells #[.int .u64 (p2 : Nat), .int .u64 (p3 : Nat), .slice A3 l3.length c3] 35)) = wA at HB HX X1 X2 X3 ⊢)
  (try clear hk0 hk1 hk2 hk3 hk4 hk5 x10 x11 x12 x20 x21 x22 x30 x31 x32)
  obtain ⟨hk0, hk1, hk2, hk3, hk4, hk5⟩ := box6 HX.out
  obtain ⟨x10, x11, x12⟩ := box3 X1.out
  obtain ⟨x20, x21, x22⟩ := box3 X2.out
  obtain ⟨x30, x31, x32⟩ := box3 X3.out
  go_wp2_with (first
    | (go_at_call 19; (with_reducible refine (laws_zzFits7.calls K (p0 : Int) (p1 : Int) A1 c1 l1 _ _ (Kd.C_below h1_.out HB.out) n1 Z1.out).mono ?_); rintro en wz1 ⟨rfl, hb⟩; have HBn := Aside0.mk (below_then HB.out HB.out.size hb); have HXn := Aside0.mk (blk_below HX.out hb); have X1n := Aside0.mk (blk_below X1.out hb); have X2n := Aside0.mk (blk_below X2.out hb); have X3n := Aside0.mk (blk_below X3.out hb); clear hb HB HX X1 X2 X3; have HB := HBn; have HX := HXn; have X1 := X1n; have X2 := X2n; have X3 := X3n; clear HBn HXn X1n X2n X3n; (try clear hk0 hk1 hk2 hk3 hk4 hk5 x10 x11 x12 x20 x21 x22 x30 x31 x32); obtain ⟨hk0, hk1, hk2, hk3, hk4, hk5⟩ := box6 HX.out; obtain ⟨x10, x11, x12⟩ := box3 X1.out; obtain ⟨x20, x21, x22⟩ := box3 X2.out; obtain ⟨x30, x31, x32⟩ := box3 X3.out)
    | (go_at_call 19; (with_reducible refine (laws_zzFits7.calls K (p1 : Int) (p2 : Int) A2 c2 l2 _ _ (Kd.C_below h2_.out HB.out) n2 Z2.out).mono ?_); rintro en wz2 ⟨rfl, hb⟩; have HBn := Aside0.mk (below_then HB.out HB.out.size hb); have HXn := Aside0.mk (blk_below HX.out hb); have X1n := Aside0.mk (blk_below X1.out hb); have X2n := Aside0.mk (blk_below X2.out hb); have X3n := Aside0.mk (blk_below X3.out hb); clear hb HB HX X1 X2 X3; have HB := HBn; have HX := HXn; have X1 := X1n; have X2 := X2n; have X3 := X3n; clear HBn HXn X1n X2n X3n; (try clear hk0 hk1 hk2 hk3 hk4 hk5 x10 x11 x12 x20 x21 x22 x30 x31 x32); obtain ⟨hk0, hk1, hk2, hk3, hk4, hk5⟩ := box6 HX.out; obtain ⟨x10, x11, x12⟩ := box3 X1.out; obtain ⟨x20, x21, x22⟩ := box3 X2.out; obtain ⟨x30, x31, x32⟩ := box3 X3.out)
    | (go_at_call 19; (with_reducible refine (laws_zzFits7.calls K (p2 : Int) (p3 : Int) A3 c3 l3 _ _ (Kd.C_below h3_.out HB.out) n3 Z3.out).mono ?_); rintro en wz3 ⟨rfl, hb⟩; have HBn := Aside0.mk (below_then HB.out HB.out.size hb); have HXn := Aside0.mk (blk_below HX.out hb); have X1n := Aside0.mk (blk_below X1.out hb); have X2n := Aside0.mk (blk_below X2.out hb); have X3n := Aside0.mk (blk_below X3.out hb); clear hb HB HX X1 X2 X3; have HB := HBn; have HX := HXn; have X1 := X1n; have X2 := X2n; have X3 := X3n; clear HBn HXn X1n X2n X3n; (try clear hk0 hk1 hk2 hk3 hk4 hk5 x10 x11 x12 x20 x21 x22 x30 x31 x32); obtain ⟨hk0, hk1, hk2, hk3, hk4, hk5⟩ := box6 HX.out; obtain ⟨x10, x11, x12⟩ := box3 X1.out; obtain ⟨x20, x21, x22⟩ := box3 X2.out; obtain ⟨x30, x31, x32⟩ := box3 X3.out)
    | (go_at_call 20; (with_reducible refine (laws_rangeFair.calls K (p0 : Int) (p1 : Int) A1 c1 l1 _ _ (Kd.C_below h1_.out HB.out) n1 R1.out).mono ?_); rintro en wr1 ⟨rfl, hb⟩; have HBn := Aside0.mk (below_then HB.out HB.out.size hb); have HXn := Aside0.mk (blk_below HX.out hb); have X1n := Aside0.mk (blk_below X1.out hb); have X2n := Aside0.mk (blk_below X2.out hb); have X3n := Aside0.mk (blk_below X3.out hb); clear hb HB HX X1 X2 X3; have HB := HBn; have HX := HXn; have X1 := X1n; have X2 := X2n; have X3 := X3n; clear HBn HXn X1n X2n X3n; (try clear hk0 hk1 hk2 hk3 hk4 hk5 x10 x11 x12 x20 x21 x22 x30 x31 x32); obtain ⟨hk0, hk1, hk2, hk3, hk4, hk5⟩ := box6 HX.out; obtain ⟨x10, x11, x12⟩ := box3 X1.out; obtain ⟨x20, x21, x22⟩ := box3 X2.out; obtain ⟨x30, x31, x32⟩ := box3 X3.out)
    | (go_at_call 20; (with_reducible refine (laws_rangeFair.calls K (p1 : Int) (p2 : Int) A2 c2 l2 _ _ (Kd.C_below h2_.out HB.out) n2 R2.out).mono ?_); rintro en wr2 ⟨rfl, hb⟩; have HBn := Aside0.mk (below_then HB.out HB.out.size hb); have HXn := Aside0.mk (blk_below HX.out hb); have X1n := Aside0.mk (blk_below X1.out hb); have X2n := Aside0.mk (blk_below X2.out hb); have X3n := Aside0.mk (blk_below X3.out hb); clear hb HB HX X1 X2 X3; have HB := HBn; have HX := HXn; have X1 := X1n; have X2 := X2n; have X3 := X3n; clear HBn HXn X1n X2n X3n; (try clear hk0 hk1 hk2 hk3 hk4 hk5 x10 x11 x12 x20 x21 x22 x30 x31 x32); obtain ⟨hk0, hk1, hk2, hk3, hk4, hk5⟩ := box6 HX.out; obtain ⟨x10, x11, x12⟩ := box3 X1.out; obtain ⟨x20, x21, x22⟩ := box3 X2.out; obtain ⟨x30, x31, x32⟩ := box3 X3.out)
    | (go_at_call 20; (with_reducible refine (laws_rangeFair.calls K (p2 : Int) (p3 : Int) A3 c3 l3 _ _ (Kd.C_below h3_.out HB.out) n3 R3.out).mono ?_); rintro en wr3 ⟨rfl, hb⟩; have HBn := Aside0.mk (below_then HB.out HB.out.size hb); have HXn := Aside0.mk (blk_below HX.out hb); have X1n := Aside0.mk (blk_below X1.out hb); have X2n := Aside0.mk (blk_below X2.out hb); have X3n := Aside0.mk (blk_below X3.out hb); clear hb HB HX X1 X2 X3; have HB := HBn; have HX := HXn; have X1 := X1n; have X2 := X2n; have X3 := X3n; clear HBn HXn X1n X2n X3n; (try clear hk0 hk1 hk2 hk3 hk4 hk5 x10 x11 x12 x20 x21 x22 x30 x31 x32); obtain ⟨hk0, hk1, hk2, hk3, hk4, hk5⟩ := box6 HX.out; obtain ⟨x10, x11, x12⟩ := box3 X1.out; obtain ⟨x20, x21, x22⟩ := box3 X2.out; obtain ⟨x30, x31, x32⟩ := box3 X3.out))
  go_wp2_with (first
    | (go_at_call 33; (with_reducible refine (O1.out.calls (Kd.C_below h1_.out HB.out) n1 (Kd.C_below h2_.out HB.out) n2 (Glob.below HG.out HB.out)).mono ?_); rintro en u1 ⟨B1, d1, vs1, rfl, hd, hC, hb⟩; have D1 := Aside0.mk hd; have C1z := Aside0.mk hC; clear hd hC; have HBn := Aside0.mk (below_then HB.out HB.out.size hb); have HXn := Aside0.mk (blk_below HX.out hb); have X1n := Aside0.mk (blk_below X1.out hb); have X2n := Aside0.mk (blk_below X2.out hb); have X3n := Aside0.mk (blk_below X3.out hb); clear hb HB HX X1 X2 X3; have HB := HBn; have HX := HXn; have X1 := X1n; have X2 := X2n; have X3 := X3n; clear HBn HXn X1n X2n X3n; (try clear hk0 hk1 hk2 hk3 hk4 hk5 x10 x11 x12 x20 x21 x22 x30 x31 x32); obtain ⟨hk0, hk1, hk2, hk3, hk4, hk5⟩ := box6 HX.out; obtain ⟨x10, x11, x12⟩ := box3 X1.out; obtain ⟨x20, x21, x22⟩ := box3 X2.out; obtain ⟨x30, x31, x32⟩ := box3 X3.out; have hltHX := lt_of_block HX.out; have hltX1 := lt_of_block X1.out; have hltX2 := lt_of_block X2.out; have hltX3 := lt_of_block X3.out))
  have hS : (u1.alloc (.cells #[.int .u64 (p0 : Nat), .int .u64 (p2 : Nat), (.slice B1 lab.length d1)] 35)).heap[u1.heap.size]? = some (.cells #[.int .u64 (p0 : Nat), .int .u64 (p2 : Nat), (.slice B1 lab.length d1)] 35 (0, 0)) := heap_alloc_new _ _
  have hb : Below u1.heap.size u1 (u1.alloc (.cells #[.int .u64 (p0 : Nat), .int .u64 (p2 : Nat), (.slice B1 lab.length d1)] 35)) := below_alloc (Below.refl _ _) _
  generalize hgs : u1.heap.size = g1 at hS ⊢
  generalize (u1.alloc (.cells #[.int .u64 (p0 : Nat), .int .u64 (p2 : Nat), (.slice B1 lab.length d1)] 35)) = v1 at hS hb ⊢
  have C1 := Aside0.mk (Kd.C_below C1z.out hb)
  have G1 : Aside0 (v1.heap[g1]? = some (.cells #[.int .u64 (p0 : Nat), .int .u64 (p2 : Nat), (.slice B1 lab.length d1)] 35 (0, 0))) := ⟨hS⟩
  clear hS C1z
  clear hltHX hltX1 hltX2 hltX3
  have HBn := Aside0.mk (below_then HB.out HB.out.size hb)
  have HXn := Aside0.mk (blk_below HX.out hb)
  have X1n := Aside0.mk (blk_below X1.out hb)
  have X2n := Aside0.mk (blk_below X2.out hb)
  have X3n := Aside0.mk (blk_below X3.out hb)
  clear hb HB HX X1 X2 X3
  have HB := HBn
  have HX := HXn
  have X1 := X1n
  have X2 := X2n
  have X3 := X3n
  clear HBn HXn X1n X2n X3n
  (try clear hk0 hk1 hk2 hk3 hk4 hk5 x10 x11 x12 x20 x21 x22 x30 x31 x32)
  obtain ⟨hk0, hk1, hk2, hk3, hk4, hk5⟩ := box6 HX.out
  obtain ⟨x10, x11, x12⟩ := box3 X1.out
  obtain ⟨x20, x21, x22⟩ := box3 X2.out
  obtain ⟨x30, x31, x32⟩ := box3 X3.out
  obtain ⟨y10, y11, y12⟩ := box3 G1.out
  go_wp2_with (first
    | (go_at_call 33; (with_reducible refine (O2.out.calls C1.out D1.out (Kd.C_below h3_.out HB.out) n3 (Glob.below HG.out HB.out)).mono ?_); rintro en u2 ⟨B2, d2, vs2, rfl, hd, hC, hb⟩; have D2 := Aside0.mk hd; have C2z := Aside0.mk hC; clear hd hC; have HBn := Aside0.mk (below_then HB.out HB.out.size hb); have HXn := Aside0.mk (blk_below HX.out hb); have X1n := Aside0.mk (blk_below X1.out hb); have X2n := Aside0.mk (blk_below X2.out hb); have X3n := Aside0.mk (blk_below X3.out hb); have G1n := Aside0.mk (blk_below G1.out hb); have C1n := Aside0.mk (Kd.C_below C1.out hb); clear hb HB HX X1 X2 X3 G1 C1; have HB := HBn; have HX := HXn; have X1 := X1n; have X2 := X2n; have X3 := X3n; have G1 := G1n; have C1 := C1n; clear HBn HXn X1n X2n X3n G1n C1n; (try clear hk0 hk1 hk2 hk3 hk4 hk5 x10 x11 x12 x20 x21 x22 x30 x31 x32); obtain ⟨hk0, hk1, hk2, hk3, hk4, hk5⟩ := box6 HX.out; obtain ⟨x10, x11, x12⟩ := box3 X1.out; obtain ⟨x20, x21, x22⟩ := box3 X2.out; obtain ⟨x30, x31, x32⟩ := box3 X3.out; (try clear y10 y11 y12); obtain ⟨y10, y11, y12⟩ := box3 G1.out; have hltHX := lt_of_block HX.out; have hltX1 := lt_of_block X1.out; have hltX2 := lt_of_block X2.out; have hltX3 := lt_of_block X3.out; have hltG1 := lt_of_block G1.out))
  have hS : (u2.alloc (.cells #[.int .u64 (p0 : Nat), .int .u64 (p3 : Nat), (.slice B2 labc.length d2)] 35)).heap[u2.heap.size]? = some (.cells #[.int .u64 (p0 : Nat), .int .u64 (p3 : Nat), (.slice B2 labc.length d2)] 35 (0, 0)) := heap_alloc_new _ _
  have hb : Below u2.heap.size u2 (u2.alloc (.cells #[.int .u64 (p0 : Nat), .int .u64 (p3 : Nat), (.slice B2 labc.length d2)] 35)) := below_alloc (Below.refl _ _) _
  generalize hgs : u2.heap.size = g2 at hS ⊢
  generalize (u2.alloc (.cells #[.int .u64 (p0 : Nat), .int .u64 (p3 : Nat), (.slice B2 labc.length d2)] 35)) = v2 at hS hb ⊢
  have C2 := Aside0.mk (Kd.C_below C2z.out hb)
  have G2 : Aside0 (v2.heap[g2]? = some (.cells #[.int .u64 (p0 : Nat), .int .u64 (p3 : Nat), (.slice B2 labc.length d2)] 35 (0, 0))) := ⟨hS⟩
  clear hS C2z
  clear hltHX hltX1 hltX2 hltX3 hltG1
  have HBn := Aside0.mk (below_then HB.out HB.out.size hb)
  have HXn := Aside0.mk (blk_below HX.out hb)
  have X1n := Aside0.mk (blk_below X1.out hb)
  have X2n := Aside0.mk (blk_below X2.out hb)
  have X3n := Aside0.mk (blk_below X3.out hb)
  have G1n := Aside0.mk (blk_below G1.out hb)
  have C1n := Aside0.mk (Kd.C_below C1.out hb)
  clear hb HB HX X1 X2 X3 G1 C1
  have HB := HBn
  have HX := HXn
  have X1 := X1n
  have X2 := X2n
  have X3 := X3n
  have G1 := G1n
  have C1 := C1n
  clear HBn HXn X1n X2n X3n G1n C1n
  (try clear hk0 hk1 hk2 hk3 hk4 hk5 x10 x11 x12 x20 x21 x22 x30 x31 x32)
  obtain ⟨hk0, hk1, hk2, hk3, hk4, hk5⟩ := box6 HX.out
  obtain ⟨x10, x11, x12⟩ := box3 X1.out
  obtain ⟨x20, x21, x22⟩ := box3 X2.out
  obtain ⟨x30, x31, x32⟩ := box3 X3.out
  (try clear y10 y11 y12)
  obtain ⟨y10, y11, y12⟩ := box3 G1.out
  obtain ⟨y20, y21, y22⟩ := box3 G2.out
  go_wp2_with (first
    | (go_at_call 33; (with_reducible refine (O3.out.calls (Kd.C_below h2_.out HB.out) n2 (Kd.C_below h3_.out HB.out) n3 (Glob.below HG.out HB.out)).mono ?_); rintro en u3 ⟨B3, d3, vs3, rfl, hd, hC, hb⟩; have D3 := Aside0.mk hd; have C3z := Aside0.mk hC; clear hd hC; have HBn := Aside0.mk (below_then HB.out HB.out.size hb); have HXn := Aside0.mk (blk_below HX.out hb); have X1n := Aside0.mk (blk_below X1.out hb); have X2n := Aside0.mk (blk_below X2.out hb); have X3n := Aside0.mk (blk_below X3.out hb); have G1n := Aside0.mk (blk_below G1.out hb); have G2n := Aside0.mk (blk_below G2.out hb); have C1n := Aside0.mk (Kd.C_below C1.out hb); have C2n := Aside0.mk (Kd.C_below C2.out hb); clear hb HB HX X1 X2 X3 G1 G2 C1 C2; have HB := HBn; have HX := HXn; have X1 := X1n; have X2 := X2n; have X3 := X3n; have G1 := G1n; have G2 := G2n; have C1 := C1n; have C2 := C2n; clear HBn HXn X1n X2n X3n G1n G2n C1n C2n; (try clear hk0 hk1 hk2 hk3 hk4 hk5 x10 x11 x12 x20 x21 x22 x30 x31 x32); obtain ⟨hk0, hk1, hk2, hk3, hk4, hk5⟩ := box6 HX.out; obtain ⟨x10, x11, x12⟩ := box3 X1.out; obtain ⟨x20, x21, x22⟩ := box3 X2.out; obtain ⟨x30, x31, x32⟩ := box3 X3.out; (try clear y10 y11 y12); obtain ⟨y10, y11, y12⟩ := box3 G1.out; (try clear y20 y21 y22); obtain ⟨y20, y21, y22⟩ := box3 G2.out; have hltHX := lt_of_block HX.out; have hltX1 := lt_of_block X1.out; have hltX2 := lt_of_block X2.out; have hltX3 := lt_of_block X3.out; have hltG1 := lt_of_block G1.out; have hltG2 := lt_of_block G2.out))
  have hS : (u3.alloc (.cells #[.int .u64 (p1 : Nat), .int .u64 (p3 : Nat), (.slice B3 lbc.length d3)] 35)).heap[u3.heap.size]? = some (.cells #[.int .u64 (p1 : Nat), .int .u64 (p3 : Nat), (.slice B3 lbc.length d3)] 35 (0, 0)) := heap_alloc_new _ _
  have hb : Below u3.heap.size u3 (u3.alloc (.cells #[.int .u64 (p1 : Nat), .int .u64 (p3 : Nat), (.slice B3 lbc.length d3)] 35)) := below_alloc (Below.refl _ _) _
  generalize hgs : u3.heap.size = g3 at hS ⊢
  generalize (u3.alloc (.cells #[.int .u64 (p1 : Nat), .int .u64 (p3 : Nat), (.slice B3 lbc.length d3)] 35)) = v3 at hS hb ⊢
  have C3 := Aside0.mk (Kd.C_below C3z.out hb)
  have G3 : Aside0 (v3.heap[g3]? = some (.cells #[.int .u64 (p1 : Nat), .int .u64 (p3 : Nat), (.slice B3 lbc.length d3)] 35 (0, 0))) := ⟨hS⟩
  clear hS C3z
  clear hltHX hltX1 hltX2 hltX3 hltG1 hltG2
  have HBn := Aside0.mk (below_then HB.out HB.out.size hb)
  have HXn := Aside0.mk (blk_below HX.out hb)
  have X1n := Aside0.mk (blk_below X1.out hb)
  have X2n := Aside0.mk (blk_below X2.out hb)
  have X3n := Aside0.mk (blk_below X3.out hb)
  have G1n := Aside0.mk (blk_below G1.out hb)
  have G2n := Aside0.mk (blk_below G2.out hb)
  have C1n := Aside0.mk (Kd.C_below C1.out hb)
  have C2n := Aside0.mk (Kd.C_below C2.out hb)
  clear hb HB HX X1 X2 X3 G1 G2 C1 C2
  have HB := HBn
  have HX := HXn
  have X1 := X1n
  have X2 := X2n
  have X3 := X3n
  have G1 := G1n
  have G2 := G2n
  have C1 := C1n
  have C2 := C2n
  clear HBn HXn X1n X2n X3n G1n G2n C1n C2n
  (try clear hk0 hk1 hk2 hk3 hk4 hk5 x10 x11 x12 x20 x21 x22 x30 x31 x32)
  obtain ⟨hk0, hk1, hk2, hk3, hk4, hk5⟩ := box6 HX.out
  obtain ⟨x10, x11, x12⟩ := box3 X1.out
  obtain ⟨x20, x21, x22⟩ := box3 X2.out
  obtain ⟨x30, x31, x32⟩ := box3 X3.out
  (try clear y10 y11 y12)
  obtain ⟨y10, y11, y12⟩ := box3 G1.out
  (try clear y20 y21 y22)
  obtain ⟨y20, y21, y22⟩ := box3 G2.out
  obtain ⟨y30, y31, y32⟩ := box3 G3.out
  go_wp2_with (first
    | (go_at_call 33; (with_reducible refine (O4.out.calls (Kd.C_below h1_.out HB.out) n1 C3.out D3.out (Glob.below HG.out HB.out)).mono ?_); rintro en u4 ⟨B4, d4, vs4, rfl, hd, hC, hb⟩; have D4 := Aside0.mk hd; have C4z := Aside0.mk hC; clear hd hC; have HBn := Aside0.mk (below_then HB.out HB.out.size hb); have HXn := Aside0.mk (blk_below HX.out hb); have X1n := Aside0.mk (blk_below X1.out hb); have X2n := Aside0.mk (blk_below X2.out hb); have X3n := Aside0.mk (blk_below X3.out hb); have G1n := Aside0.mk (blk_below G1.out hb); have G2n := Aside0.mk (blk_below G2.out hb); have G3n := Aside0.mk (blk_below G3.out hb); have C1n := Aside0.mk (Kd.C_below C1.out hb); have C2n := Aside0.mk (Kd.C_below C2.out hb); have C3n := Aside0.mk (Kd.C_below C3.out hb); clear hb HB HX X1 X2 X3 G1 G2 G3 C1 C2 C3; have HB := HBn; have HX := HXn; have X1 := X1n; have X2 := X2n; have X3 := X3n; have G1 := G1n; have G2 := G2n; have G3 := G3n; have C1 := C1n; have C2 := C2n; have C3 := C3n; clear HBn HXn X1n X2n X3n G1n G2n G3n C1n C2n C3n; (try clear hk0 hk1 hk2 hk3 hk4 hk5 x10 x11 x12 x20 x21 x22 x30 x31 x32); obtain ⟨hk0, hk1, hk2, hk3, hk4, hk5⟩ := box6 HX.out; obtain ⟨x10, x11, x12⟩ := box3 X1.out; obtain ⟨x20, x21, x22⟩ := box3 X2.out; obtain ⟨x30, x31, x32⟩ := box3 X3.out; (try clear y10 y11 y12); obtain ⟨y10, y11, y12⟩ := box3 G1.out; (try clear y20 y21 y22); obtain ⟨y20, y21, y22⟩ := box3 G2.out; (try clear y30 y31 y32); obtain ⟨y30, y31, y32⟩ := box3 G3.out; have hltHX := lt_of_block HX.out; have hltX1 := lt_of_block X1.out; have hltX2 := lt_of_block X2.out; have hltX3 := lt_of_block X3.out; have hltG1 := lt_of_block G1.out; have hltG2 := lt_of_block G2.out; have hltG3 := lt_of_block G3.out))
  have hS : (u4.alloc (.cells #[.int .u64 (p0 : Nat), .int .u64 (p3 : Nat), (.slice B4 labc.length d4)] 35)).heap[u4.heap.size]? = some (.cells #[.int .u64 (p0 : Nat), .int .u64 (p3 : Nat), (.slice B4 labc.length d4)] 35 (0, 0)) := heap_alloc_new _ _
  have hb : Below u4.heap.size u4 (u4.alloc (.cells #[.int .u64 (p0 : Nat), .int .u64 (p3 : Nat), (.slice B4 labc.length d4)] 35)) := below_alloc (Below.refl _ _) _
  generalize hgs : u4.heap.size = g4 at hS ⊢
  generalize (u4.alloc (.cells #[.int .u64 (p0 : Nat), .int .u64 (p3 : Nat), (.slice B4 labc.length d4)] 35)) = v4 at hS hb ⊢
  have C4 := Aside0.mk (Kd.C_below C4z.out hb)
  have G4 : Aside0 (v4.heap[g4]? = some (.cells #[.int .u64 (p0 : Nat), .int .u64 (p3 : Nat), (.slice B4 labc.length d4)] 35 (0, 0))) := ⟨hS⟩
  clear hS C4z
  clear hltHX hltX1 hltX2 hltX3 hltG1 hltG2 hltG3
  have HBn := Aside0.mk (below_then HB.out HB.out.size hb)
  have HXn := Aside0.mk (blk_below HX.out hb)
  have X1n := Aside0.mk (blk_below X1.out hb)
  have X2n := Aside0.mk (blk_below X2.out hb)
  have X3n := Aside0.mk (blk_below X3.out hb)
  have G1n := Aside0.mk (blk_below G1.out hb)
  have G2n := Aside0.mk (blk_below G2.out hb)
  have G3n := Aside0.mk (blk_below G3.out hb)
  have C1n := Aside0.mk (Kd.C_below C1.out hb)
  have C2n := Aside0.mk (Kd.C_below C2.out hb)
  have C3n := Aside0.mk (Kd.C_below C3.out hb)
  clear hb HB HX X1 X2 X3 G1 G2 G3 C1 C2 C3
  have HB := HBn
  have HX := HXn
  have X1 := X1n
  have X2 := X2n
  have X3 := X3n
  have G1 := G1n
  have G2 := G2n
  have G3 := G3n
  have C1 := C1n
  have C2 := C2n
  have C3 := C3n
  clear HBn HXn X1n X2n X3n G1n G2n G3n C1n C2n C3n
  (try clear hk0 hk1 hk2 hk3 hk4 hk5 x10 x11 x12 x20 x21 x22 x30 x31 x32)
  obtain ⟨hk0, hk1, hk2, hk3, hk4, hk5⟩ := box6 HX.out
  obtain ⟨x10, x11, x12⟩ := box3 X1.out
  obtain ⟨x20, x21, x22⟩ := box3 X2.out
  obtain ⟨x30, x31, x32⟩ := box3 X3.out
  (try clear y10 y11 y12)
  obtain ⟨y10, y11, y12⟩ := box3 G1.out
  (try clear y20 y21 y22)
  obtain ⟨y20, y21, y22⟩ := box3 G2.out
  (try clear y30 y31 y32)
  obtain ⟨y30, y31, y32⟩ := box3 G3.out
  obtain ⟨y40, y41, y42⟩ := box3 G4.out
  go_wp2_with (first
    | (go_at_call 27; (with_reducible refine (spec_SameRange.calls (p0 : Int) (p3 : Int) B2 d2 labc (p0 : Int) (p3 : Int) B4 d4 labc true _ C2.out D2.out C4.out D4.out SR.out).mono ?_); rintro en wx ⟨rfl, hb⟩; have HBn := Aside0.mk (below_then HB.out HB.out.size hb); have HXn := Aside0.mk (blk_below HX.out hb); have X1n := Aside0.mk (blk_below X1.out hb); have X2n := Aside0.mk (blk_below X2.out hb); have X3n := Aside0.mk (blk_below X3.out hb); have G1n := Aside0.mk (blk_below G1.out hb); have G2n := Aside0.mk (blk_below G2.out hb); have G3n := Aside0.mk (blk_below G3.out hb); have G4n := Aside0.mk (blk_below G4.out hb); have C1n := Aside0.mk (Kd.C_below C1.out hb); have C2n := Aside0.mk (Kd.C_below C2.out hb); have C3n := Aside0.mk (Kd.C_below C3.out hb); have C4n := Aside0.mk (Kd.C_below C4.out hb); clear hb HB HX X1 X2 X3 G1 G2 G3 G4 C1 C2 C3 C4; have HB := HBn; have HX := HXn; have X1 := X1n; have X2 := X2n; have X3 := X3n; have G1 := G1n; have G2 := G2n; have G3 := G3n; have G4 := G4n; have C1 := C1n; have C2 := C2n; have C3 := C3n; have C4 := C4n; clear HBn HXn X1n X2n X3n G1n G2n G3n G4n C1n C2n C3n C4n; (try clear hk0 hk1 hk2 hk3 hk4 hk5 x10 x11 x12 x20 x21 x22 x30 x31 x32); obtain ⟨hk0, hk1, hk2, hk3, hk4, hk5⟩ := box6 HX.out; obtain ⟨x10, x11, x12⟩ := box3 X1.out; obtain ⟨x20, x21, x22⟩ := box3 X2.out; obtain ⟨x30, x31, x32⟩ := box3 X3.out; (try clear y10 y11 y12); obtain ⟨y10, y11, y12⟩ := box3 G1.out; (try clear y20 y21 y22); obtain ⟨y20, y21, y22⟩ := box3 G2.out; (try clear y30 y31 y32); obtain ⟨y30, y31, y32⟩ := box3 G3.out; (try clear y40 y41 y42); obtain ⟨y40, y41, y42⟩ := box3 G4.out))
  go_wp2_with (first
    | (go_at_call 26; (with_reducible refine (O5.out.calls C1.out D1.out (Kd.C_below h3_.out HB.out) n3 (Glob.below HG.out HB.out)).mono ?_); rintro en u5 ⟨B5, d5, vs5, rfl, hd, hC, hb⟩; rw [HP3.out]; have D5 := Aside0.mk hd; have C5z := Aside0.mk hC; clear hd hC; have HBn := Aside0.mk (below_then HB.out HB.out.size hb); have HXn := Aside0.mk (blk_below HX.out hb); have X1n := Aside0.mk (blk_below X1.out hb); have X2n := Aside0.mk (blk_below X2.out hb); have X3n := Aside0.mk (blk_below X3.out hb); have G1n := Aside0.mk (blk_below G1.out hb); have G2n := Aside0.mk (blk_below G2.out hb); have G3n := Aside0.mk (blk_below G3.out hb); have G4n := Aside0.mk (blk_below G4.out hb); have C1n := Aside0.mk (Kd.C_below C1.out hb); have C2n := Aside0.mk (Kd.C_below C2.out hb); have C3n := Aside0.mk (Kd.C_below C3.out hb); have C4n := Aside0.mk (Kd.C_below C4.out hb); clear hb HB HX X1 X2 X3 G1 G2 G3 G4 C1 C2 C3 C4; have HB := HBn; have HX := HXn; have X1 := X1n; have X2 := X2n; have X3 := X3n; have G1 := G1n; have G2 := G2n; have G3 := G3n; have G4 := G4n; have C1 := C1n; have C2 := C2n; have C3 := C3n; have C4 := C4n; clear HBn HXn X1n X2n X3n G1n G2n G3n G4n C1n C2n C3n C4n; (try clear hk0 hk1 hk2 hk3 hk4 hk5 x10 x11 x12 x20 x21 x22 x30 x31 x32); obtain ⟨hk0, hk1, hk2, hk3, hk4, hk5⟩ := box6 HX.out; obtain ⟨x10, x11, x12⟩ := box3 X1.out; obtain ⟨x20, x21, x22⟩ := box3 X2.out; obtain ⟨x30, x31, x32⟩ := box3 X3.out; (try clear y10 y11 y12); obtain ⟨y10, y11, y12⟩ := box3 G1.out; (try clear y20 y21 y22); obtain ⟨y20, y21, y22⟩ := box3 G2.out; (try clear y30 y31 y32); obtain ⟨y30, y31, y32⟩ := box3 G3.out; (try clear y40 y41 y42); obtain ⟨y40, y41, y42⟩ := box3 G4.out; have hltHX := lt_of_block HX.out; have hltX1 := lt_of_block X1.out; have hltX2 := lt_of_block X2.out; have hltX3 := lt_of_block X3.out; have hltG1 := lt_of_block G1.out; have hltG2 := lt_of_block G2.out; have hltG3 := lt_of_block G3.out; have hltG4 := lt_of_block G4.out))
  have hS : (u5.alloc (.cells #[.int .u64 (p0 : Nat), .int .u64 (p3 : Nat), (.slice B5 labc.length d5)] 35)).heap[u5.heap.size]? = some (.cells #[.int .u64 (p0 : Nat), .int .u64 (p3 : Nat), (.slice B5 labc.length d5)] 35 (0, 0)) := heap_alloc_new _ _
  have hb : Below u5.heap.size u5 (u5.alloc (.cells #[.int .u64 (p0 : Nat), .int .u64 (p3 : Nat), (.slice B5 labc.length d5)] 35)) := below_alloc (Below.refl _ _) _
  generalize hgs : u5.heap.size = g5 at hS ⊢
  generalize (u5.alloc (.cells #[.int .u64 (p0 : Nat), .int .u64 (p3 : Nat), (.slice B5 labc.length d5)] 35)) = v5 at hS hb ⊢
  have C5 := Aside0.mk (Kd.C_below C5z.out hb)
  have G5 : Aside0 (v5.heap[g5]? = some (.cells #[.int .u64 (p0 : Nat), .int .u64 (p3 : Nat), (.slice B5 labc.length d5)] 35 (0, 0))) := ⟨hS⟩
  clear hS C5z
  clear hltHX hltX1 hltX2 hltX3 hltG1 hltG2 hltG3 hltG4
  have HBn := Aside0.mk (below_then HB.out HB.out.size hb)
  have HXn := Aside0.mk (blk_below HX.out hb)
  have X1n := Aside0.mk (blk_below X1.out hb)
  have X2n := Aside0.mk (blk_below X2.out hb)
  have X3n := Aside0.mk (blk_below X3.out hb)
  have G1n := Aside0.mk (blk_below G1.out hb)
  have G2n := Aside0.mk (blk_below G2.out hb)
  have G3n := Aside0.mk (blk_below G3.out hb)
  have G4n := Aside0.mk (blk_below G4.out hb)
  have C1n := Aside0.mk (Kd.C_below C1.out hb)
  have C2n := Aside0.mk (Kd.C_below C2.out hb)
  have C3n := Aside0.mk (Kd.C_below C3.out hb)
  have C4n := Aside0.mk (Kd.C_below C4.out hb)
  clear hb HB HX X1 X2 X3 G1 G2 G3 G4 C1 C2 C3 C4
  have HB := HBn
  have HX := HXn
  have X1 := X1n
  have X2 := X2n
  have X3 := X3n
  have G1 := G1n
  have G2 := G2n
  have G3 := G3n
  have G4 := G4n
  have C1 := C1n
  have C2 := C2n
  have C3 := C3n
  have C4 := C4n
  clear HBn HXn X1n X2n X3n G1n G2n G3n G4n C1n C2n C3n C4n
  (try clear hk0 hk1 hk2 hk3 hk4 hk5 x10 x11 x12 x20 x21 x22 x30 x31 x32)
  obtain ⟨hk0, hk1, hk2, hk3, hk4, hk5⟩ := box6 HX.out
  obtain ⟨x10, x11, x12⟩ := box3 X1.out
  obtain ⟨x20, x21, x22⟩ := box3 X2.out
  obtain ⟨x30, x31, x32⟩ := box3 X3.out
  (try clear y10 y11 y12)
  obtain ⟨y10, y11, y12⟩ := box3 G1.out
  (try clear y20 y21 y22)
  obtain ⟨y20, y21, y22⟩ := box3 G2.out
  (try clear y30 y31 y32)
  obtain ⟨y30, y31, y32⟩ := box3 G3.out
  (try clear y40 y41 y42)
  obtain ⟨y40, y41, y42⟩ := box3 G4.out
  obtain ⟨y50, y51, y52⟩ := box3 G5.out
  go_wp2_with (first
    | (go_at_call 27; (with_reducible refine (spec_SameRange.calls (p0 : Int) (p3 : Int) B5 d5 labc (p0 : Int) (p3 : Int) B2 d2 labc true _ C5.out D5.out C2.out D2.out SR.out).mono ?_); rintro en wy ⟨rfl, hb⟩; have HBn := Aside0.mk (below_then HB.out HB.out.size hb); have HXn := Aside0.mk (blk_below HX.out hb); have X1n := Aside0.mk (blk_below X1.out hb); have X2n := Aside0.mk (blk_below X2.out hb); have X3n := Aside0.mk (blk_below X3.out hb); have G1n := Aside0.mk (blk_below G1.out hb); have G2n := Aside0.mk (blk_below G2.out hb); have G3n := Aside0.mk (blk_below G3.out hb); have G4n := Aside0.mk (blk_below G4.out hb); have G5n := Aside0.mk (blk_below G5.out hb); have C1n := Aside0.mk (Kd.C_below C1.out hb); have C2n := Aside0.mk (Kd.C_below C2.out hb); have C3n := Aside0.mk (Kd.C_below C3.out hb); have C4n := Aside0.mk (Kd.C_below C4.out hb); have C5n := Aside0.mk (Kd.C_below C5.out hb); clear hb HB HX X1 X2 X3 G1 G2 G3 G4 G5 C1 C2 C3 C4 C5; have HB := HBn; have HX := HXn; have X1 := X1n; have X2 := X2n; have X3 := X3n; have G1 := G1n; have G2 := G2n; have G3 := G3n; have G4 := G4n; have G5 := G5n; have C1 := C1n; have C2 := C2n; have C3 := C3n; have C4 := C4n; have C5 := C5n; clear HBn HXn X1n X2n X3n G1n G2n G3n G4n G5n C1n C2n C3n C4n C5n; (try clear hk0 hk1 hk2 hk3 hk4 hk5 x10 x11 x12 x20 x21 x22 x30 x31 x32); obtain ⟨hk0, hk1, hk2, hk3, hk4, hk5⟩ := box6 HX.out; obtain ⟨x10, x11, x12⟩ := box3 X1.out; obtain ⟨x20, x21, x22⟩ := box3 X2.out; obtain ⟨x30, x31, x32⟩ := box3 X3.out; (try clear y10 y11 y12); obtain ⟨y10, y11, y12⟩ := box3 G1.out; (try clear y20 y21 y22); obtain ⟨y20, y21, y22⟩ := box3 G2.out; (try clear y30 y31 y32); obtain ⟨y30, y31, y32⟩ := box3 G3.out; (try clear y40 y41 y42); obtain ⟨y40, y41, y42⟩ := box3 G4.out; (try clear y50 y51 y52); obtain ⟨y50, y51, y52⟩ := box3 G5.out))
  go_ret
  exact ⟨rfl, HB.out⟩

end Go.Proofs.YtfhcpniibiobgaaDoor.Qf
