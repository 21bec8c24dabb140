/- The law FnRangeGrows, walked (printed by gen_lawrg.py). -/
import Derived.Test.YtfhcpniibiobgaaDoorGi
namespace Go.Proofs.YtfhcpniibiobgaaDoor.Qf
open Go.RowKit Go.Proofs.YtfhcpniibiobgaaDoorW.PrintWords Go.Proofs.YtfhcpniibiobgaaDoorW.PrintLast Go.Proofs.YtfhcpniibiobgaaDoorW.PrintMore
open Hs (CB CL at_L at_B infoB infoL R_of_blk)

theorem box6 {w : World} {g : Nat} {a0 a1 a2 a3 a4 a5 : Int} (h : w.heap[g]? = some (.cells #[.int .i64 a0, .int .i64 a1, .int .i64 a2, .int .u64 a3, .int .u64 a4, .int .u64 a5] 24 (0, 0))) : w.cell? ⟨g, 0, none⟩ = some (.int .i64 a0) ∧ w.cell? ⟨g, 1, none⟩ = some (.int .i64 a1) ∧ w.cell? ⟨g, 2, none⟩ = some (.int .i64 a2) ∧ w.cell? ⟨g, 3, none⟩ = some (.int .u64 a3) ∧ w.cell? ⟨g, 4, none⟩ = some (.int .u64 a4) ∧ w.cell? ⟨g, 5, none⟩ = some (.int .u64 a5) :=
  ⟨(blk_cell h 0).trans rfl, (blk_cell h 1).trans rfl, (blk_cell h 2).trans rfl, (blk_cell h 3).trans rfl, (blk_cell h 4).trans rfl, (blk_cell h 5).trans rfl⟩
theorem box2 {w : World} {g T : Nat} {x y : Value} (h : w.heap[g]? = some (.cells #[x, y] T (0, 0))) : w.cell? ⟨g, 0, none⟩ = some x ∧ w.cell? ⟨g, 1, none⟩ = some y := ⟨(blk_cell h 0).trans rfl, (blk_cell h 1).trans rfl⟩
theorem box3 {w : World} {g T : Nat} {x y z : Value} (h : w.heap[g]? = some (.cells #[x, y, z] T (0, 0))) : w.cell? ⟨g, 0, none⟩ = some x ∧ w.cell? ⟨g, 1, none⟩ = some y ∧ w.cell? ⟨g, 2, none⟩ = some z := ⟨(blk_cell h 0).trans rfl, (blk_cell h 1).trans rfl, (blk_cell h 2).trans rfl⟩
theorem nil_C (w : World) : CL w none [] := ⟨rfl, by simp, fun h => by simp at h⟩
/-- The reference's hash of a part of rows that came in. -/
theorem rootOf_arg {k : Nat} {a0 a1 a2 a3 a4 a5 p q : Int} {A : Option Addr} {c : Nat} {L : List (List Int)} {r : List Int} {w : World} (h : CL w A L) (hc : L.length ≤ c) (hr : spec_RootOf.f k a0 a1 a2 a3 a4 a5 L p q = some r) :
    Calls Tryd.prog 31 #[.agg #[.int .i64 a0, .int .i64 a1, .int .i64 a2, .int .u64 a3, .int .u64 a4, .int .u64 a5], .slice A L.length c, .agg #[.int .u64 p, .int .u64 q]] w fun en w' => ∃ A' c', en = .returned (.slice A' r.length c') ∧ r.length ≤ c' ∧ CB w' A' r ∧ Below w.heap.size w w' :=
  (spec_RootOf.calls k a0 a1 a2 a3 a4 a5 (fun k => k < w.heap.size) A c L p q r w (Kd.V_mk hc (Kd.C_F (Kd.heap_slice _ (Kd.heap_int _)) h)) hr).mono fun _ _ ⟨v, he, hv, hb⟩ => by
    obtain ⟨A', c', rfl⟩ := Kd.V_slice hv
    obtain ⟨_, h2, h3⟩ := Kd.V_reads' hv
    exact ⟨A', c', he, h2, h3, hb⟩
/-- The reference's range of rows that came in. -/
theorem rangeOf_arg {k : Nat} {a0 a1 a2 a3 a4 a5 b x y : Int} {A : Option Addr} {c : Nat} {L : List (List Int)} {r : List (List Int)} {w : World} (h : CL w A L) (hc : L.length ≤ c) (hr : spec_RangeOf.f k a0 a1 a2 a3 a4 a5 b L = some (x, y, r)) :
    Calls Tryd.prog 28 #[.agg #[.int .i64 a0, .int .i64 a1, .int .i64 a2, .int .u64 a3, .int .u64 a4, .int .u64 a5], .int .u64 b, .slice A L.length c] w fun en w' => ∃ A' c', en = .returned (.agg #[.int .u64 x, .int .u64 y, .slice A' r.length c']) ∧ r.length ≤ c' ∧ CL w' A' r ∧ Below w.heap.size w w' :=
  (spec_RangeOf.calls k a0 a1 a2 a3 a4 a5 b (fun k => k < w.heap.size) A c L x y r w (Kd.V_mk hc (Kd.C_F (Kd.heap_slice _ (Kd.heap_int _)) h)) hr).mono fun _ _ ⟨v, he, hv, hb⟩ => by
    have hv := Kd.N_V (base' := 0) hv
    obtain ⟨A', c', rfl⟩ := Kd.V_slice hv
    obtain ⟨_, h2, h3⟩ := Kd.V_reads' hv
    exact ⟨A', c', he, h2, h3, hb⟩
theorem eqA52 (d : Nat) (w : World) (x0 y0 : Int) (x1 y1 : Int) :
    (Op.equalIn (d + 2) 52 (.agg #[.int .u64 x0, .int .u64 x1]) (.agg #[.int .u64 y0, .int .u64 y1])).run Tryd.prog w = .ok (x0 == y0 && (x1 == y1)) w := by
  refine eqA_of Tryd.underlying52 (by kernel_rfl) ?_
  refine eqf_cons (by rfl) (by go_simp; rfl) (by go_simp; rfl) (by go_simp) ?_
  exact eqf_last (by rfl) (by go_simp; rfl) (by go_simp; rfl) (by go_simp)
attribute [local go_sem high] eqA52
theorem parent_of (t ix : Nat) (ht : t ≤ 63) : impl_Parent.f (t : Int) (ix : Int) = some (((t + 1 : Nat) : Int), ((ix / 2 : Nat) : Int)) := by
  have h1 : IntKind.u64.wrap ((t : Int) + 1) = ((t + 1 : Nat) : Int) := by
    show ((t : Int) + 1) % 18446744073709551616 = _
    omega
  have h2 : (ix : Int) / 2 = ((ix / 2 : Nat) : Int) := by omega
  unfold impl_Parent.f impl_toNode.f compact_NodeID_Parent.f impl_fromNode.f compact_NewNodeID.f
  simp only [Option.bind_some, h1, h2]
theorem SeenAt.at {g : Nat} {w : World} {A : Option Addr} {V : List Vis} (h : SeenAt g w A V) (j : Nat) (hj : j < V.length) {lv ix : Int} {x : List Int} (hx : V.getD j (0, 0, []) = (lv, ix, x)) : ∃ ad A0 c0, A = some ad ∧ w.cell? (ad.add (j * 3)) = some (.int .u64 lv) ∧ w.cell? ⟨(ad.add (j * 3)).block, (ad.add (j * 3)).off + 1, none⟩ = some (.int .u64 ix) ∧ w.cell? ⟨(ad.add (j * 3)).block, (ad.add (j * 3)).off + 2, none⟩ = some (.slice A0 x.length c0) ∧ x.length ≤ c0 ∧ CB w A0 x := by
  obtain ⟨ad, A0, c0, e0, e1, e2, e3, e4, e5, _⟩ := h.get j hj
  rw [hx] at e1 e2 e3 e4 e5
  exact ⟨ad, A0, c0, e0, e1, by rw [← add_field _ _ 1 (by omega)]; exact e2, by rw [← add_field _ _ 2 (by omega)]; exact e3, e4, e5⟩
/-- What must hold for the main way: leaf j completes the levels 0 .. ns j. -/
structure RgOk (a0 a1 a2 a3 a4 a5 : Int) (b : Nat) (M : List (List Int)) (ls : Nat → List (List Int)) (vl : Nat → List Vis) (ns : Nat → Nat) (k : Nat) : Prop where
  t0 : impl_texts.f k [] = some []
  tM : impl_texts.f k M = some M
  te : impl_texts.f k (ls M.length) = some (ls M.length)
  sz0 : compact_RangeSize.f (b : Int) (b : Int) = some 0
  he : b + M.length < 18446744073709551616
  hMl : M.length ≤ 300
  hMr : ∀ j, j < M.length → (M.getD j []).length ≤ 140737488351232
  hs0 : ls 0 = []
  hst : ∀ j, j < M.length → MStep a0 a1 a2 a3 a4 a5 b (b + j) (ls j) (M.getD j []) (ls (j + 1)) (vl j)
  hsl : ∀ j, j ≤ M.length → (ls j).length ≤ 500
  hvl : ∀ j, j ≤ M.length → (visA vl j).length + (ls j).length ≤ 900
  ro : spec_RangeOf.f k a0 a1 a2 a3 a4 a5 (b : Int) M = some ((b : Int), ((b + M.length : Nat) : Int), ls M.length)
  sr : spec_SameRange.f (b : Int) ((b + M.length : Nat) : Int) (ls M.length) (b : Int) ((b + M.length : Nat) : Int) (ls M.length) = some true
  nv : ∀ j, j < M.length → (vl j).length = ns j + 1
  vi : ∀ j, j < M.length → ∀ t, t ≤ ns j → ∃ x : List Int, (vl j).getD t (0, 0, []) = ((t : Int), (((b + j) / 2 ^ t : Nat) : Int), x) ∧ t ≤ 63 ∧ ∃ p : Nat, spec_Leaves.f (t : Int) (((b + j) / 2 ^ t : Nat) : Int) = some ((p : Int), ((b + j + 1 : Nat) : Int)) ∧ b ≤ p ∧ p ≤ b + j ∧ spec_RootOf.f k a0 a1 a2 a3 a4 a5 M ((p - b : Nat) : Int) ((j + 1 : Nat) : Int) = some x
  stop : ∀ j, j < M.length → ns j + 1 ≤ 64 ∧ ∃ p q : Nat, spec_Leaves.f ((ns j + 1 : Nat) : Int) (((b + j) / 2 ^ (ns j + 1) : Nat) : Int) = some ((p : Int), (q : Int)) ∧ (ns j + 1 = 64 ∨ (ns j + 1 < 64 ∧ (p < b ∨ (b ≤ p ∧ q ≠ b + j + 1))))
theorem grow_calls {a0 a1 a2 a3 a4 a5 : Int} {b : Nat} {M : List (List Int)} {ls : Nat → List (List Int)} {vl : Nat → List Vis} {ns : Nat → Nat} {k : Nat} (h : RgOk a0 a1 a2 a3 a4 a5 b M ls vl ns k) (E : Nat) (hE : b + M.length = E) (Am : Option Addr) (cm : Nat) (w : World) (hcm : M.length ≤ cm) (hM : CL w Am M) (HG_ : Glob w) :
    Calls Tryd.prog 26 #[.agg #[.int .i64 a0, .int .i64 a1, .int .i64 a2, .int .u64 a3, .int .u64 a4, .int .u64 a5], .agg #[.int .u64 (b : Nat), .int .u64 (b : Nat), .slice none 0 0], .slice Am M.length cm] w fun en w' => ∃ A c Av cv, en = .returned (.tuple #[.agg #[.int .u64 (b : Nat), .int .u64 (E : Int), .slice A (ls M.length).length c], .slice Av (visA vl M.length).length cv, .bool true]) ∧ (ls M.length).length ≤ c ∧ CL w' A (ls M.length) ∧ SeenAt w.heap.size w' Av (visA vl M.length) ∧ Below w.heap.size w w' :=
  (append_calls a0 a1 a2 a3 a4 a5 b b none 0 [] Am cm M ls vl k w (Nat.le_refl _) hcm (nil_C w) hM HG_ h.t0 h.tM h.te (Nat.le_refl _) h.sz0 h.he (by simp) h.hMl h.hMr h.hs0 h.hst h.hsl h.hvl).mono fun _ w' ⟨v, Av, cv, e1, e0, e2, e3⟩ => by
    obtain ⟨A, c, rfl, h1, h2⟩ := Kd.S_reads e2
    subst hE
    exact ⟨A, c, Av, cv, e1, h1, h2, e0, e3⟩
/-- Where a visit stands. -/
theorem visA_at {vl : Nat → List Vis} (d : Vis) : ∀ {n j t : Nat}, j < n → t < (vl j).length → (visA vl n).getD ((visA vl j).length + t) d = (vl j).getD t d ∧ (visA vl j).length + t < (visA vl n).length
  | 0, j, t, hj, _ => by omega
  | n + 1, j, t, hj, ht => by
    by_cases e : j = n
    · subst e
      rw [visA, List.length_append, List.getD_eq_getElem?_getD, List.getElem?_append_right (by omega), Nat.add_sub_cancel_left]
      exact ⟨(List.getD_eq_getElem?_getD ..).symm, by omega⟩
    · obtain ⟨h1, h2⟩ := visA_at d (n := n) (j := j) (t := t) (by omega) ht
      rw [visA, List.length_append, List.getD_eq_getElem?_getD, List.getElem?_append_left h2, ← List.getD_eq_getElem?_getD]
      exact ⟨h1, by omega⟩

set_option maxHeartbeats 2000000 in
set_option maxRecDepth 100000 in
theorem rg1 (K : Nat) (a0 a1 a2 a3 a4 a5 : Int) (b : Nat) (A : Option Addr) (c : Nat) (M : List (List Int)) (w : World) (hl : CL w A M) (hc : M.length ≤ c) (z1 : laws_zzFits2.f K M = some false) :
    Calls Tryd.prog 6 #[.agg #[.int .i64 a0, .int .i64 a1, .int .i64 a2, .int .u64 a3, .int .u64 a4, .int .u64 a5], .int .u64 (b : Nat), .slice A M.length c] w fun en w' => en = .returned (.bool true) ∧ Below w.heap.size w w' := by
  have hl_ := Aside0.mk hl
  clear hl
  have HB : Aside0 (Below w.heap.size w (w.alloc (.cells #[.int .i64 a0, .int .i64 a1, .int .i64 a2, .int .u64 a3, .int .u64 a4, .int .u64 a5] 24))) := ⟨below_alloc (Below.refl _ _) _⟩
  have HX : Aside0 ((w.alloc (.cells #[.int .i64 a0, .int .i64 a1, .int .i64 a2, .int .u64 a3, .int .u64 a4, .int .u64 a5] 24)).heap[w.heap.size]? = some (.cells #[.int .i64 a0, .int .i64 a1, .int .i64 a2, .int .u64 a3, .int .u64 a4, .int .u64 a5] 24 (0, 0))) := ⟨heap_alloc_new w (.cells #[.int .i64 a0, .int .i64 a1, .int .i64 a2, .int .u64 a3, .int .u64 a4, .int .u64 a5] 24)⟩
  have Z1 := Aside0.mk z1
  clear z1
  go_enter Tryd.func6, Tryd.ntmps6
  go_wp2_with fail
  go_wp2_with (first
    | (go_at_call 13; (with_reducible refine (laws_zzFits2.calls K A c M _ _ (Kd.C_below hl_.out HB.out) hc Z1.out).mono ?_); rintro en w1 ⟨rfl, hd⟩; (first | have hb := hd.below | have hb := hd); clear hd; have HB1 := Aside0.mk (below_then HB.out HB.out.size hb); have HX1 := Aside0.mk (blk_below HX.out hb); clear HB HX hb; have HB := HB1; have HX := HX1; clear HB1 HX1; (try clear hk0 hk1 hk2 hk3 hk4 hk5); obtain ⟨hk0, hk1, hk2, hk3, hk4, hk5⟩ := box6 HX.out))
  go_ret
  exact ⟨rfl, HB.out⟩

set_option maxHeartbeats 2000000 in
set_option maxRecDepth 100000 in
theorem rg2 (K : Nat) (a0 a1 a2 a3 a4 a5 : Int) (b : Nat) (A : Option Addr) (c : Nat) (M : List (List Int)) (w : World) (hl : CL w A M) (hc : M.length ≤ c) (z1 : laws_zzFits2.f K M = some true) (rr : laws_rangeRoom.f K (b : Int) (b : Int) [] M = some false) :
    Calls Tryd.prog 6 #[.agg #[.int .i64 a0, .int .i64 a1, .int .i64 a2, .int .u64 a3, .int .u64 a4, .int .u64 a5], .int .u64 (b : Nat), .slice A M.length c] w fun en w' => en = .returned (.bool true) ∧ Below w.heap.size w w' := by
  have hl_ := Aside0.mk hl
  clear hl
  have HB : Aside0 (Below w.heap.size w (w.alloc (.cells #[.int .i64 a0, .int .i64 a1, .int .i64 a2, .int .u64 a3, .int .u64 a4, .int .u64 a5] 24))) := ⟨below_alloc (Below.refl _ _) _⟩
  have HX : Aside0 ((w.alloc (.cells #[.int .i64 a0, .int .i64 a1, .int .i64 a2, .int .u64 a3, .int .u64 a4, .int .u64 a5] 24)).heap[w.heap.size]? = some (.cells #[.int .i64 a0, .int .i64 a1, .int .i64 a2, .int .u64 a3, .int .u64 a4, .int .u64 a5] 24 (0, 0))) := ⟨heap_alloc_new w (.cells #[.int .i64 a0, .int .i64 a1, .int .i64 a2, .int .u64 a3, .int .u64 a4, .int .u64 a5] 24)⟩
  have Z1 := Aside0.mk z1
  clear z1
  have RR := Aside0.mk rr
  clear rr
  go_enter Tryd.func6, Tryd.ntmps6
  go_wp2_with fail
  go_wp2_with (first
    | (go_at_call 13; (with_reducible refine (laws_zzFits2.calls K A c M _ _ (Kd.C_below hl_.out HB.out) hc Z1.out).mono ?_); rintro en w1 ⟨rfl, hd⟩; (first | have hb := hd.below | have hb := hd); clear hd; have HB1 := Aside0.mk (below_then HB.out HB.out.size hb); have HX1 := Aside0.mk (blk_below HX.out hb); clear HB HX hb; have HB := HB1; have HX := HX1; clear HB1 HX1; (try clear hk0 hk1 hk2 hk3 hk4 hk5); obtain ⟨hk0, hk1, hk2, hk3, hk4, hk5⟩ := box6 HX.out)
    | (go_at_call 25; refine (laws_rangeRoom.calls K (b : Int) (b : Int) none 0 [] A c M _ _ (nil_C _) (Nat.le_refl _) (Kd.C_below hl_.out HB.out) hc RR.out).mono ?_; rintro en w4 ⟨rfl, hd⟩; (first | have hb := hd.below | have hb := hd); clear hd; have HB1 := Aside0.mk (below_then HB.out HB.out.size hb); have HX1 := Aside0.mk (blk_below HX.out hb); clear HB HX hb; have HB := HB1; have HX := HX1; clear HB1 HX1; (try clear hk0 hk1 hk2 hk3 hk4 hk5); obtain ⟨hk0, hk1, hk2, hk3, hk4, hk5⟩ := box6 HX.out))
  go_ret
  exact ⟨rfl, HB.out⟩

set_option maxHeartbeats 8000000 in
set_option maxRecDepth 100000 in
theorem rg3 (K : Nat) (a0 a1 a2 a3 a4 a5 : Int) (b : Nat) (A : Option Addr) (c : Nat) (M : List (List Int)) (w : World) (hl : CL w A M) (hc : M.length ≤ c) (z1 : laws_zzFits2.f K M = some true) (rr : laws_rangeRoom.f K (b : Int) (b : Int) [] M = some true) (HG_ : Glob w) (ls : Nat → List (List Int)) (vl : Nat → List Vis) (ns : Nat → Nat) (k : Nat) (ok : RgOk a0 a1 a2 a3 a4 a5 b M ls vl ns k) :
    Calls Tryd.prog 6 #[.agg #[.int .i64 a0, .int .i64 a1, .int .i64 a2, .int .u64 a3, .int .u64 a4, .int .u64 a5], .int .u64 (b : Nat), .slice A M.length c] w fun en w' => en = .returned (.bool true) ∧ Below w.heap.size w w' := by
  have hl_ := Aside0.mk hl
  clear hl
  have HB : Aside0 (Below w.heap.size w (w.alloc (.cells #[.int .i64 a0, .int .i64 a1, .int .i64 a2, .int .u64 a3, .int .u64 a4, .int .u64 a5] 24))) := ⟨below_alloc (Below.refl _ _) _⟩
  have HX : Aside0 ((w.alloc (.cells #[.int .i64 a0, .int .i64 a1, .int .i64 a2, .int .u64 a3, .int .u64 a4, .int .u64 a5] 24)).heap[w.heap.size]? = some (.cells #[.int .i64 a0, .int .i64 a1, .int .i64 a2, .int .u64 a3, .int .u64 a4, .int .u64 a5] 24 (0, 0))) := ⟨heap_alloc_new w (.cells #[.int .i64 a0, .int .i64 a1, .int .i64 a2, .int .u64 a3, .int .u64 a4, .int .u64 a5] 24)⟩
  have Z1 := Aside0.mk z1
  clear z1
  have RR := Aside0.mk rr
  clear rr
  obtain ⟨E, hE⟩ : ∃ E, b + M.length = E := ⟨_, rfl⟩
  have HE := Aside0.mk hE
  have RO := Aside0.mk ok.ro
  have SR := Aside0.mk ok.sr
  rw [hE] at RO SR
  clear hE
  have HG := Aside0.mk HG_
  have OK := Aside0.mk ok
  clear HG_ ok
  go_enter Tryd.func6, Tryd.ntmps6
  go_wp2_with fail
  go_wp2_with (first
    | (go_at_call 13; (with_reducible refine (laws_zzFits2.calls K A c M _ _ (Kd.C_below hl_.out HB.out) hc Z1.out).mono ?_); rintro en w1 ⟨rfl, hd⟩; (first | have hb := hd.below | have hb := hd); clear hd; have HB1 := Aside0.mk (below_then HB.out HB.out.size hb); have HX1 := Aside0.mk (blk_below HX.out hb); clear HB HX hb; have HB := HB1; have HX := HX1; clear HB1 HX1; (try clear hk0 hk1 hk2 hk3 hk4 hk5); obtain ⟨hk0, hk1, hk2, hk3, hk4, hk5⟩ := box6 HX.out)
    | (go_at_call 25; refine (laws_rangeRoom.calls K (b : Int) (b : Int) none 0 [] A c M _ _ (nil_C _) (Nat.le_refl _) (Kd.C_below hl_.out HB.out) hc RR.out).mono ?_; rintro en w4 ⟨rfl, hd⟩; (first | have hb := hd.below | have hb := hd); clear hd; have HB1 := Aside0.mk (below_then HB.out HB.out.size hb); have HX1 := Aside0.mk (blk_below HX.out hb); clear HB HX hb; have HB := HB1; have HX := HX1; clear HB1 HX1; (try clear hk0 hk1 hk2 hk3 hk4 hk5); obtain ⟨hk0, hk1, hk2, hk3, hk4, hk5⟩ := box6 HX.out))
  go_wp2_with (first
    | (go_at_call 26; (with_reducible refine (grow_calls OK.out E HE.out A c _ hc (Kd.C_below hl_.out HB.out) (Glob.below HG.out HB.out)).mono ?_); rintro en w6 ⟨A6, d6, Av, cv, rfl, hd, hC, hS, hb⟩; have HD6 := Aside0.mk hd; have HC6 := Aside0.mk hC; have HS6 := Aside0.mk hS; clear hd hC hS; have HB1 := Aside0.mk (below_then HB.out HB.out.size hb); have HX1 := Aside0.mk (blk_below HX.out hb); clear HB HX hb; have HB := HB1; have HX := HX1; clear HB1 HX1; (try clear hk0 hk1 hk2 hk3 hk4 hk5); obtain ⟨hk0, hk1, hk2, hk3, hk4, hk5⟩ := box6 HX.out; have hlt6 : w.heap.size < w6.heap.size := lt_of_block HX.out))
  have hS3 : (w6.alloc (.cells #[.int .u64 (b : Nat), .int .u64 (E : Int), (.slice A6 (ls M.length).length d6)] 35)).heap[w6.heap.size]? = some (.cells #[.int .u64 (b : Nat), .int .u64 (E : Int), (.slice A6 (ls M.length).length d6)] 35 (0, 0)) := heap_alloc_new _ _
  have hB3 : Below w6.heap.size w6 (w6.alloc (.cells #[.int .u64 (b : Nat), .int .u64 (E : Int), (.slice A6 (ls M.length).length d6)] 35)) := below_alloc (Below.refl _ _) _
  generalize (w6.alloc (.cells #[.int .u64 (b : Nat), .int .u64 (E : Int), (.slice A6 (ls M.length).length d6)] 35)) = w7 at hS3 hB3 ⊢
  have C6 := Aside0.mk (Kd.C_below HC6.out hB3)
  have S6 := Aside0.mk (HS6.out.below hB3)
  have G6 : Aside0 (w7.heap[w6.heap.size]? = some (.cells #[.int .u64 (b : Nat), .int .u64 (E : Int), (.slice A6 (ls M.length).length d6)] 35 (0, 0))) := ⟨hS3⟩
  clear hS3 HC6 HS6
  have hb := hB3
  clear hB3
  have HB1 := Aside0.mk (below_then HB.out HB.out.size hb)
  have HX1 := Aside0.mk (blk_below HX.out hb)
  clear HB HX hb
  have HB := HB1
  have HX := HX1
  clear HB1 HX1
  (try clear hk0 hk1 hk2 hk3 hk4 hk5)
  obtain ⟨hk0, hk1, hk2, hk3, hk4, hk5⟩ := box6 HX.out
  obtain ⟨y0, y1, y2⟩ := box3 G6.out
  have L7 := Aside0.mk (Kd.C_below hl_.out HB.out)
  go_region_held3 (fun w' => w'.cell? ⟨w.heap.size, 0, none⟩ = some (.int .i64 a0) ∧ w'.cell? ⟨w.heap.size, 1, none⟩ = some (.int .i64 a1) ∧ w'.cell? ⟨w.heap.size, 2, none⟩ = some (.int .i64 a2) ∧ w'.cell? ⟨w.heap.size, 3, none⟩ = some (.int .u64 a3) ∧ w'.cell? ⟨w.heap.size, 4, none⟩ = some (.int .u64 a4) ∧ w'.cell? ⟨w.heap.size, 5, none⟩ = some (.int .u64 a5) ∧ w'.cell? ⟨w6.heap.size, 0, none⟩ = some (.int .u64 (b : Nat)) ∧ w'.cell? ⟨w6.heap.size, 1, none⟩ = some (.int .u64 (E : Int)) ∧ w'.cell? ⟨w6.heap.size, 2, none⟩ = some (.slice A6 (ls M.length).length d6) ∧ Below w7.heap.size w7 w')
    (((try dsimp only); (try go_split_ands); (repeat' apply And.intro) <;> first | (go_keep; done) | exact below_drew (Below.refl _ _) | (refine pw_cell_below hb ?_; assumption) | (refine below_then ?_ ?_ hb; assumption; exact Below.size (by assumption))))
    (first
      | (go_at_call 28; have hB0 := Aside0.mk (show Below w7.heap.size w7 _ by go_split_ands; assumption); refine (rangeOf_arg (Kd.C_below L7.out hB0.out) hc RO.out).mono ?_; rintro e' w8 ⟨A8, d8, rfl, hd8, hC8, hb⟩; have HD8 := Aside0.mk hd8; have HC8 := Aside0.mk hC8; have HB8 := Aside0.mk (below_then hB0.out hB0.out.size hb); clear hd8 hC8)
      | (go_at_call 27; refine (spec_SameRange.calls (b : Int) (E : Int) A6 d6 (ls M.length) (b : Int) (E : Int) A8 d8 (ls M.length) true _ (Kd.C_below C6.out HB8.out) HD6.out HC8.out HD8.out SR.out).mono ?_; rintro e' w9 ⟨rfl, hd⟩; (first | have hb := hd.below | have hb := hd)))
  go_split_ands
  have HB9 : Aside0 (Below w7.heap.size w7 w9) := ⟨by assumption⟩
  have G9 := Aside0.mk (blk_below G6.out HB9.out)
  have X9 := Aside0.mk (blk_below HX.out HB9.out)
  have S9 := Aside0.mk (S6.out.below HB9.out)
  have L9 := Aside0.mk (Kd.C_below L7.out HB9.out)
  have HBw := Aside0.mk (below_then HB.out HB.out.size HB9.out)
  clear hd L7 C6 HB8 HC8 HD8 HD6 S6 G6 HX HB HB9 RO SR y0 y1 y2 hk0 hk1 hk2 hk3 hk4 hk5
  have O := OK.out
  have hM300 := O.hMl
  have hbM := O.he
  clear O
  go_wp2
  (try simp only [Act.put, List.setIfInBounds_toArray, List.set_cons_zero, List.set_cons_succ])
  go_loopg [10, 46] M.length (fun kq v10 v46 wr => ∃ j : Nat, j + kq = M.length ∧ v46 = .int .i64 (j : Nat) ∧ v10 = .int .i64 ((visA vl j).length : Nat) ∧ Aside0 (Below w9.heap.size w9 wr))
  case atStart => exact ⟨0, by omega, rfl, rfl, ⟨Below.refl _ _⟩⟩
  case round =>
    obtain ⟨j, hj, rfl, rfl, HBj⟩ := hrel
    rename World => wr
    by_cases hlt : j < M.length
    · have hj0 : (0 : Int) ≤ (j : Int) := by omega
      have hjM : (j : Int) < (M.length : Int) := by omega
      have hw0 : ∀ z : Int, z = (j : Int) → IntKind.u64.wrap ((b : Int) + z) = ((b + j : Nat) : Int) := fun z hz => by
        rw [hz]
        show ((b : Int) + (j : Int)) % 18446744073709551616 = _
        omega
      obtain ⟨pos, hpos⟩ : ∃ pos, pos = (visA vl j).length := ⟨_, rfl⟩
      rw [← hpos]
      have HPOS := Aside0.mk hpos
      clear hpos
      obtain ⟨E1, hE1⟩ : ∃ E1, E1 = b + j + 1 := ⟨_, rfl⟩
      have HE1 := Aside0.mk hE1
      have hw1 : ∀ z : Int, z = 1 → IntKind.u64.wrap ((b : Int) + (j : Int) + z) = (E1 : Int) := fun z hz => by
        rw [hz, hE1]
        show ((b : Int) + (j : Int) + 1) % 18446744073709551616 = _
        omega
      clear hE1
      have HJ := Aside0.mk hj
      clear hj
      go_wp2
      have hBL : Below wr.heap.size wr (wr.alloc (.cells #[.int .u64 0, .int .u64 ((b : Int) + (j : Int))] 52)) := below_alloc (Below.refl _ _) _
      have hBN := heap_alloc_new wr (.cells #[.int .u64 0, .int .u64 ((b : Int) + (j : Int))] 52)
      have hwr := HBj.out.size
      go_loopg [10, 12] (ns j + 1) (fun kq v10 v12 wv => ∃ (t g ix q : Nat), t + kq = ns j + 1 ∧ v12 = .pointer (some ⟨g, 0, none⟩) ∧ v10 = .int .i64 (q : Int) ∧ w9.heap.size ≤ g ∧ Aside0 (q = pos + t) ∧ Aside0 (ix = (b + j) / 2 ^ t) ∧ Aside0 (wv.heap[g]? = some (.cells #[.int .u64 (t : Int), .int .u64 (ix : Int)] 52 (0, 0))) ∧ Aside0 (Below w9.heap.size w9 wv))
      case atStart => exact ⟨0, wr.heap.size, b + j, pos, by omega, rfl, rfl, hwr, ⟨rfl⟩, ⟨by simp⟩, ⟨by push_cast; exact hBN⟩, ⟨below_step HBj.out hBL⟩⟩
      case round =>
        clear hBL hBN HBj
        obtain ⟨t, g, ix, q, htk, rfl, rfl, hg, HQ, HIX, BN, HBt⟩ := hrel
        rename World => wv
        have HT := Aside0.mk htk
        clear htk
        by_cases hle : t ≤ ns j
        · obtain ⟨x, hx, ht63, p, hLv, hbp, hpe, hRO⟩ := OK.out.vi j hlt t hle
          obtain ⟨hv1, hv2⟩ := visA_at (vl := vl) (n := M.length) (j := j) (t := t) (0, 0, []) hlt (by rw [OK.out.nv j hlt]; omega)
          rw [← HPOS.out, ← HQ.out] at hv1 hv2
          rw [hx, ← HIX.out] at hv1
          rw [← HIX.out, ← HE1.out] at hLv
          obtain ⟨P1, hP1⟩ : ∃ P1, P1 = p - b := ⟨_, rfl⟩
          obtain ⟨J1, hJ1⟩ : ∃ J1, J1 = j + 1 := ⟨_, rfl⟩
          obtain ⟨T1, hT1⟩ : ∃ T1, T1 = t + 1 := ⟨_, rfl⟩
          obtain ⟨I1, hI1⟩ : ∃ I1, I1 = ix / 2 := ⟨_, rfl⟩
          obtain ⟨Q1, hQ1⟩ : ∃ Q1, Q1 = q + 1 := ⟨_, rfl⟩
          rw [← hP1, ← hJ1] at hRO
          have hPA := parent_of t ix ht63
          rw [← hT1, ← hI1] at hPA
          have HRO := Aside0.mk hRO
          have HLV := Aside0.mk hLv
          have HPA := Aside0.mk hPA
          have HVL := OK.out.hvl M.length (Nat.le_refl _)
          have hw2 : ∀ z : Int, z = (b : Int) → IntKind.u64.wrap ((p : Int) - z) = (P1 : Int) := fun z hz => by
            rw [hz, hP1]
            show ((p : Int) - (b : Int)) % 18446744073709551616 = _
            omega
          have hE1 := HE1.out
          have hw3 : ∀ z : Int, z = (b : Int) → IntKind.u64.wrap ((E1 : Int) - z) = (J1 : Int) := fun z hz => by
            rw [hz, hJ1, hE1]
            show (((b + j + 1 : Nat) : Int) - (b : Int)) % 18446744073709551616 = _
            omega
          have hw4 : ∀ z : Int, z = 1 → wrap64 ((q : Int) + z) = (Q1 : Int) := fun z hz => by
            rw [hz, hQ1, w64_in _ (by omega)]
            omega
          have u1 : decide ((t : Int) ≥ 64) = false := decide_eq_false (by omega)
          have u1n : decide (64 ≤ t) = false := decide_eq_false (by omega)
          have u2 : decide ((p : Int) < (b : Int)) = false := decide_eq_false (by omega)
          have u2n : decide (p < b) = false := decide_eq_false (by omega)
          have u4 : decide ((q : Int) ≥ ((visA vl M.length).length : Int)) = false := decide_eq_false (by omega)
          have u4n : decide ((visA vl M.length).length ≤ q) = false := decide_eq_false (by omega)
          have hq0 : (0 : Int) ≤ (q : Int) := by omega
          have hqn : (q : Int) < ((visA vl M.length).length : Int) := by omega
          obtain ⟨ad, A0, c0, e0, s0, s1, s2, hxl, hxb⟩ := (S9.out.below HBt.out).at q hv2 hv1
          subst e0
          have HXB := Aside0.mk hxb
          have HXL := Aside0.mk hxl
          have S0 := Aside0.mk s0
          have S1 := Aside0.mk s1
          have S2 := Aside0.mk s2
          have SM : Aside0 (spec_SameText.f x x = some true) := ⟨by unfold spec_SameText.f; rw [beq_self_eq_true]⟩
          have HP := Aside0.mk (And.intro hP1 (And.intro hJ1 (And.intro hT1 (And.intro hI1 hQ1))))
          have HLE := Aside0.mk hle
          clear hx hv1 hv2 hLv hRO hPA HVL hE1 hxl hxb s0 s1 s2 hP1 hJ1 hT1 hI1 hQ1 hle
          obtain ⟨n0, n1⟩ := box2 BN.out
          go_wp2_with (first
            | (go_at_call 30; (with_reducible refine (spec_Leaves.calls (t : Int) (ix : Int) (p : Int) (E1 : Int) _ HLV.out).mono ?_); rintro en wl ⟨rfl, hb⟩; clear n0 n1; have hBp : Below wl.heap.size wl (wl.alloc (.cells #[.int .u64 (p : Int), .int .u64 (E1 : Int)] 55)) := below_alloc (Below.refl _ _) _; have HBp := Aside0.mk (below_step hb hBp); have BN2 := Aside0.mk (blk_below BN.out HBp.out); have BP2 := Aside0.mk (heap_alloc_new wl (.cells #[.int .u64 (p : Int), .int .u64 (E1 : Int)] 55)); obtain ⟨n0, n1⟩ := box2 BN2.out; obtain ⟨p0, p1⟩ := box2 BP2.out; clear hBp hb))
          generalize hgp : wl.heap.size = gp at BP2 p0 p1 ⊢
          generalize (wl.alloc (.cells #[.int .u64 (p : Int), .int .u64 (E1 : Int)] 55)) = wp at HBp BN2 BP2 n0 n1 p0 p1 ⊢
          clear hgp
          obtain ⟨hk0, hk1, hk2, hk3, hk4, hk5⟩ := box6 (blk_below X9.out (below_step HBt.out HBp.out))
          have LP := Aside0.mk (Kd.C_below L9.out (below_step HBt.out HBp.out))
          have XP := Aside0.mk (Kd.C_below HXB.out HBp.out)
          have s0 := pw_cell_below HBp.out S0.out
          have s1 := pw_cell_below HBp.out S1.out
          have s2 := pw_cell_below HBp.out S2.out
          go_region_held3 (fun w' => w'.cell? ⟨w.heap.size, 0, none⟩ = some (.int .i64 a0) ∧ w'.cell? ⟨w.heap.size, 1, none⟩ = some (.int .i64 a1) ∧ w'.cell? ⟨w.heap.size, 2, none⟩ = some (.int .i64 a2) ∧ w'.cell? ⟨w.heap.size, 3, none⟩ = some (.int .u64 a3) ∧ w'.cell? ⟨w.heap.size, 4, none⟩ = some (.int .u64 a4) ∧ w'.cell? ⟨w.heap.size, 5, none⟩ = some (.int .u64 a5) ∧ w'.cell? ⟨g, 0, none⟩ = some (.int .u64 (t : Int)) ∧ w'.cell? ⟨g, 1, none⟩ = some (.int .u64 (ix : Int)) ∧ w'.cell? ⟨gp, 0, none⟩ = some (.int .u64 (p : Int)) ∧ w'.cell? ⟨gp, 1, none⟩ = some (.int .u64 (E1 : Int)) ∧ w'.cell? (ad.add (q * 3)) = some (.int .u64 (t : Int)) ∧ w'.cell? ⟨(ad.add (q * 3)).block, (ad.add (q * 3)).off + 1, none⟩ = some (.int .u64 (ix : Int)) ∧ w'.cell? ⟨(ad.add (q * 3)).block, (ad.add (q * 3)).off + 2, none⟩ = some (.slice A0 x.length c0) ∧ Below wp.heap.size wp w')
            (((try dsimp only); (try go_split_ands); (repeat' apply And.intro) <;> first | (go_keep; done) | exact below_drew (Below.refl _ _) | (refine pw_cell_below hb ?_; assumption) | (refine below_then ?_ ?_ hb; assumption; exact Below.size (by assumption))))
            (first
              | (go_at_call 31; have hB0 := Aside0.mk (show Below wp.heap.size wp _ by go_split_ands; assumption); refine (rootOf_arg (Kd.C_below LP.out hB0.out) hc HRO.out).mono ?_; rintro e' wo ⟨Ar, cr, rfl, hdr, hCr, hb⟩; have HDr := Aside0.mk hdr; have HCr := Aside0.mk hCr; have HBr := Aside0.mk (below_then hB0.out hB0.out.size hb); clear hdr hCr)
              | (go_at_call 17; refine (spec_SameText.calls A0 c0 x Ar cr x true _ (Kd.C_below XP.out HBr.out) HXL.out HCr.out HDr.out SM.out).mono ?_; rintro e' ws ⟨rfl, hd⟩; (first | have hb := hd.below | have hb := hd)))
          go_split_ands
          have HBs : Aside0 (Below wp.heap.size wp ws) := ⟨by assumption⟩
          have hBm : Below ws.heap.size ws (ws.alloc (.cells #[.int .u64 (t : Int), .int .u64 (ix : Int)] 52)) := below_alloc (Below.refl _ _) _
          have BM := Aside0.mk (heap_alloc_new ws (.cells #[.int .u64 (t : Int), .int .u64 (ix : Int)] 52))
          obtain ⟨m0, m1⟩ := box2 BM.out
          go_wp2_with (first
            | (go_at_call 29; (with_reducible refine (impl_Parent.calls (t : Int) (ix : Int) (T1 : Int) (I1 : Int) _ HPA.out).mono ?_); rintro en wt ⟨rfl, hb⟩; have BMt := Aside0.mk (blk_below BM.out hb); have HBM := Aside0.mk (below_step hBm hb); clear hb m0 m1; obtain ⟨m0, m1⟩ := box2 BMt.out; have f0 := blk_frozen BMt.out 0; have SK5 := Aside0.mk (by simpa using blk_set BMt.out 0 (.int .u64 (T1 : Int))); have f1 : (wt.setCell ⟨ws.heap.size, 0, none⟩ (.int .u64 (T1 : Int))).frozen? ⟨ws.heap.size, 1, none⟩ = false := blk_frozen SK5.out 1; have SK6 := Aside0.mk (by simpa using blk_set SK5.out 1 (.int .u64 (I1 : Int)))))
          have z1 := HBt.out.size
          have z2 := HBp.out.size
          have z3 := HBs.out.size
          have hz : w9.heap.size ≤ ws.heap.size := by omega
          obtain ⟨_, _, eT, eI, eQ⟩ := HP.out
          have htk := HT.out
          have hle := HLE.out
          go_roundg (ns j - t)
          case measure => omega
          case rel => exact ⟨T1, ws.heap.size, I1, Q1, by omega, rfl, rfl, hz, ⟨by rw [eQ, eT, HQ.out]; omega⟩, ⟨by rw [eI, eT, HIX.out, Nat.pow_succ, ← Nat.div_div_eq_div_mul]⟩, SK6, ⟨Below.setCell (Below.setCell (below_step (below_step (below_step HBt.out HBp.out) HBs.out) HBM.out) hz _) hz _⟩⟩
        · obtain ⟨h64, p, r, hLv, hst⟩ := OK.out.stop j hlt
          have htn : ns j + 1 = t := by have := HT.out; omega
          have hnv := OK.out.nv j hlt
          rw [htn] at h64 hLv hst hnv
          rw [← HIX.out] at hLv
          rw [← HE1.out] at hst
          have HLV := Aside0.mk hLv
          have HNV := Aside0.mk hnv
          clear htn hLv hnv HT
          obtain ⟨n0, n1⟩ := box2 BN.out
          rcases hst with hst | ⟨hs1, hst | ⟨hs2, hst⟩⟩
          · have u1 : decide ((t : Int) ≥ 64) = true := decide_eq_true (by omega)
            have u1n : decide (64 ≤ t) = true := decide_eq_true (by omega)
            clear hst
            go_wp2_with (first
              | (go_at_call 30; (with_reducible refine (spec_Leaves.calls (t : Int) (ix : Int) (p : Int) (r : Int) _ HLV.out).mono ?_); rintro en wl ⟨rfl, hb⟩; clear n0 n1; have hBp : Below wl.heap.size wl (wl.alloc (.cells #[.int .u64 (p : Int), .int .u64 (r : Int)] 55)) := below_alloc (Below.refl _ _) _; have HBp := Aside0.mk (below_step hb hBp); have BN2 := Aside0.mk (blk_below BN.out HBp.out); have BP2 := Aside0.mk (heap_alloc_new wl (.cells #[.int .u64 (p : Int), .int .u64 (r : Int)] 55)); obtain ⟨n0, n1⟩ := box2 BN2.out; obtain ⟨p0, p1⟩ := box2 BP2.out; clear hBp hb))
            have hj := HJ.out
            go_roundg (M.length - (j + 1))
            case measure => omega
            case rel => exact ⟨j + 1, by omega, by rw [show ((j + 1 : Nat) : Int) = (j : Int) + 1 by omega], by rw [visA, List.length_append, HNV.out, ← HPOS.out, ← HQ.out], ⟨below_step HBt.out HBp.out⟩⟩
          · have u1 : decide ((t : Int) ≥ 64) = false := decide_eq_false (by omega)
            have u1n : decide (64 ≤ t) = false := decide_eq_false (by omega)
            have u2 : decide ((p : Int) < (b : Int)) = true := decide_eq_true (by omega)
            have u2n : decide (p < b) = true := decide_eq_true hst
            clear hst hs1
            go_wp2_with (first
              | (go_at_call 30; (with_reducible refine (spec_Leaves.calls (t : Int) (ix : Int) (p : Int) (r : Int) _ HLV.out).mono ?_); rintro en wl ⟨rfl, hb⟩; clear n0 n1; have hBp : Below wl.heap.size wl (wl.alloc (.cells #[.int .u64 (p : Int), .int .u64 (r : Int)] 55)) := below_alloc (Below.refl _ _) _; have HBp := Aside0.mk (below_step hb hBp); have BN2 := Aside0.mk (blk_below BN.out HBp.out); have BP2 := Aside0.mk (heap_alloc_new wl (.cells #[.int .u64 (p : Int), .int .u64 (r : Int)] 55)); obtain ⟨n0, n1⟩ := box2 BN2.out; obtain ⟨p0, p1⟩ := box2 BP2.out; clear hBp hb))
            have hj := HJ.out
            go_roundg (M.length - (j + 1))
            case measure => omega
            case rel => exact ⟨j + 1, by omega, by rw [show ((j + 1 : Nat) : Int) = (j : Int) + 1 by omega], by rw [visA, List.length_append, HNV.out, ← HPOS.out, ← HQ.out], ⟨below_step HBt.out HBp.out⟩⟩
          · have u1 : decide ((t : Int) ≥ 64) = false := decide_eq_false (by omega)
            have u1n : decide (64 ≤ t) = false := decide_eq_false (by omega)
            have u2 : decide ((p : Int) < (b : Int)) = false := decide_eq_false (by omega)
            have u2n : decide (p < b) = false := decide_eq_false (by omega)
            have u3 : ((r : Int) != (E1 : Int)) = true := bne_iff_ne.2 (by omega)
            have u3n : (r != E1) = true := bne_iff_ne.2 hst
            clear hst hs1 hs2
            go_wp2_with (first
              | (go_at_call 30; (with_reducible refine (spec_Leaves.calls (t : Int) (ix : Int) (p : Int) (r : Int) _ HLV.out).mono ?_); rintro en wl ⟨rfl, hb⟩; clear n0 n1; have hBp : Below wl.heap.size wl (wl.alloc (.cells #[.int .u64 (p : Int), .int .u64 (r : Int)] 55)) := below_alloc (Below.refl _ _) _; have HBp := Aside0.mk (below_step hb hBp); have BN2 := Aside0.mk (blk_below BN.out HBp.out); have BP2 := Aside0.mk (heap_alloc_new wl (.cells #[.int .u64 (p : Int), .int .u64 (r : Int)] 55)); obtain ⟨n0, n1⟩ := box2 BN2.out; obtain ⟨p0, p1⟩ := box2 BP2.out; clear hBp hb))
            have hj := HJ.out
            go_roundg (M.length - (j + 1))
            case measure => omega
            case rel => exact ⟨j + 1, by omega, by rw [show ((j + 1 : Nat) : Int) = (j : Int) + 1 by omega], by rw [visA, List.length_append, HNV.out, ← HPOS.out, ← HQ.out], ⟨below_step HBt.out HBp.out⟩⟩
    · obtain rfl : j = M.length := by omega
      go_wp2
      go_ret
      exact ⟨rfl, below_step HBw.out HBj.out⟩
end Go.Proofs.YtfhcpniibiobgaaDoor.Qf
