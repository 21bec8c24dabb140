/- Arguments that came in, opened: a hash function, bytes, rows of bytes. -/
import Derived.Test.YtfhcpniibiobgaaDoorHk
import Derived.WideShapes
import Derived.OpenShut
import Derived.Lib.SmallJoins
import Derived.Deep.Matrix
import Derived.ChangeSlices
namespace Go.Proofs.YtfhcpniibiobgaaDoor.Hs
open Go.ChangeShapes Go.WideShapes Go.ChangeAt Go.RowKit
open Go.RowKit Go.Proofs.YtfhcpniibiobgaaDoorW.PrintWords Go.Proofs.YtfhcpniibiobgaaDoorW.PrintLast Go.Proofs.YtfhcpniibiobgaaDoorW.PrintMore
variable {H : Type} {enc : TypeId × Value → H}
set_option maxRecDepth 100000 in
theorem open_field {W : World} {spare : Nat → Bool} {held : Bool} {t : TypeId} {k : IntKind} {n o : Nat} {cs : List Value} {x : Option (DataW H × List MemPlace)} (ht : Tryd.prog.underlying t = some (.int k)) (hc : Tryd.prog.cellsOf t = 1) (hx : ∃ y, x = some y)
    (h : DataW.trod enc Tryd.prog W 0 spare held n t ((cs.drop o).take (Tryd.prog.cellsOf t)) = x) : ∃ m, (cs.drop o).take 1 = [.int k m] ∧ (Lit.int k m).wf = true := by
  obtain ⟨y, rfl⟩ := hx
  obtain ⟨m, h1, _, h2⟩ := DataW.trod_int ht h
  rw [hc] at h1
  exact ⟨m, h1, h2⟩
set_option maxRecDepth 100000 in
theorem open_hasher {W : World} {spare : Nat → Bool} {held : Bool} {base : Nat} {v : Value} {d : DataW H} {p : List MemPlace} (hv : Value.okWide Tryd.prog W .any base 24 v) (h : DataW.Trod enc Tryd.prog W 0 spare held 24 v d p) :
    ∃ a0 a1 a2 a3 a4 a5 : Int, v = .agg #[.int .i64 a0, .int .i64 a1, .int .i64 a2, .int .u64 a3, .int .u64 a4, .int .u64 a5] ∧ (Lit.int .i64 a0).wf = true ∧ (Lit.int .i64 a1).wf = true ∧ (Lit.int .i64 a2).wf = true ∧ (Lit.int .u64 a3).wf = true ∧ (Lit.int .u64 a4).wf = true ∧ (Lit.int .u64 a5).wf = true := by
  obtain ⟨cs, rfl, hsz⟩ := okWide_struct Tryd.underlying24 hv
  rw [show Tryd.prog.cellsOf 24 = 6 by kernel_rfl] at hsz
  obtain ⟨l⟩ := cs
  match l, hsz with
  | [c0, c1, c2, c3, c4, c5], _ =>
  obtain ⟨fuel, hf⟩ := h
  obtain ⟨xs, n, _, _, _, hlen, hfl⟩ := DataW.trod_struct Tryd.underlying24 hf
  have ex : ∀ i, i < 6 → ∃ y, xs[i]? = some y := fun i hi => ⟨_, List.getElem?_eq_getElem (by rw [hlen]; exact hi)⟩
  obtain ⟨a0, e0, w0⟩ := open_field Tryd.underlying3 (by kernel_rfl) (ex 0 (by omega)) (hfl 0 _ rfl)
  obtain ⟨a1, e1, w1⟩ := open_field Tryd.underlying3 (by kernel_rfl) (ex 1 (by omega)) (hfl 1 _ rfl)
  obtain ⟨a2, e2, w2⟩ := open_field Tryd.underlying3 (by kernel_rfl) (ex 2 (by omega)) (hfl 2 _ rfl)
  obtain ⟨a3, e3, w3⟩ := open_field Tryd.underlying22 (by kernel_rfl) (ex 3 (by omega)) (hfl 3 _ rfl)
  obtain ⟨a4, e4, w4⟩ := open_field Tryd.underlying22 (by kernel_rfl) (ex 4 (by omega)) (hfl 4 _ rfl)
  obtain ⟨a5, e5, w5⟩ := open_field Tryd.underlying22 (by kernel_rfl) (ex 5 (by omega)) (hfl 5 _ rfl)
  simp [Value.cells] at e0 e1 e2 e3 e4 e5
  subst e0 e1 e2 e3 e4 e5
  exact ⟨a0, a1, a2, a3, a4, a5, rfl, w0, w1, w2, w3, w4, w5⟩
set_option maxRecDepth 100000 in
theorem open_bytes {W : World} {held : Bool} {base : Nat} {v : Value} {d : DataW H} {p : List MemPlace} (hv : Value.okWide Tryd.prog W .any base 28 v) (h : DataW.Trod enc Tryd.prog W 0 (fun _ => true) held 28 v d p) :
    ∃ (A : Option Addr) (c : Nat) (l : List Int), v = .slice A l.length c ∧ l.length ≤ c ∧ CB W A l ∧ ∀ n ∈ l, (Lit.int .u8 n).wf = true := by
  obtain ⟨A, n, c, rfl⟩ := okWide_slice Tryd.underlying28 hv
  obtain ⟨fuel, hf⟩ := h
  rcases open_ints Tryd.underlying28 Tryd.underlying5 (by kernel_rfl) hf with ⟨hcs, _⟩ | ⟨x, l, c', zs, hcs, _, hl, hm, hz, _, hcell, hwz⟩
  · simp [Value.cells] at hcs
    obtain ⟨rfl, rfl, rfl⟩ := hcs
    exact ⟨none, 0, [], rfl, Nat.le_refl _, ⟨rfl, by simp, fun h => by simp at h⟩, fun n h => by simp at h⟩
  · simp [Value.cells] at hcs
    obtain ⟨rfl, rfl, rfl⟩ := hcs
    rw [if_pos rfl] at hz
    have hlt : (zs.take n).length = n := by rw [List.length_take]; omega
    refine ⟨some x, c, zs.take n, by rw [hlt], by omega, ⟨rfl, by rw [hlt]; unfold maxLen at hm; omega, fun _ => ⟨x, rfl, fun j q hj => ⟨[.int .u8 q], rfl, rfl, fun i u hi => ?_⟩⟩⟩, fun m hm' => hwz m (List.mem_of_mem_take hm')⟩
    rcases i with _ | i
    · obtain rfl := Option.some.inj hi
      obtain ⟨hjl, hjq⟩ := List.getElem?_eq_some_iff.1 hj
      rw [List.length_take] at hjl
      have hc := hcell j (by omega)
      rw [List.getElem_take] at hjq
      rw [List.getD_eq_getElem?_getD, List.getElem?_eq_getElem (by omega), Option.getD_some, hjq] at hc
      have hj1 : j * (Kd.int .u8).sz + 0 = j := by show j * 1 + 0 = j; omega
      rw [hj1]
      exact hc
    · simp at hi
set_option maxRecDepth 100000 in
theorem open_rows_cells {W : World} {held : Bool} {fuel : Nat} {cs : List Value} {d : DataW H} {p : List MemPlace} (hf : DataW.trod enc Tryd.prog W 0 (fun _ => true) held fuel 25 cs = some (d, p)) :
    ∃ (A : Option Addr) (c : Nat) (l : List (List Int)), cs = [.slice A l.length c] ∧ l.length ≤ c ∧ CL W A l ∧ ∀ r ∈ l, ∀ n ∈ r, (Lit.int .u8 n).wf = true := by
  rcases Deep.open_int_rows Tryd.underlying25 Tryd.underlying28 Tryd.underlying5 (by kernel_rfl) (by kernel_rfl) hf with ⟨hcs, _⟩ | ⟨x, n, c, A', L, C, Z, hcs, _, hl, hm, _, hrow⟩
  · exact ⟨none, 0, [], hcs, Nat.le_refl _, ⟨rfl, by simp, fun h => by simp at h⟩, fun n h => by simp at h⟩
  · have hlt : ((List.range n).map fun r => (Z r).take (L r)).length = n := by simp
    refine ⟨some x, c, (List.range n).map fun r => (Z r).take (L r), by rw [hlt, hcs], by omega, ⟨rfl, by rw [hlt]; unfold maxLen at hm; omega, fun _ => ⟨x, rfl, fun j q hj => ?_⟩⟩, ?_⟩
    · rw [List.getElem?_map] at hj
      obtain ⟨j', hj', rfl⟩ := Option.map_eq_some_iff.1 hj
      obtain ⟨hjn, hje⟩ := List.getElem?_eq_some_iff.1 hj'
      rw [List.getElem_range] at hje
      subst hje
      rw [List.length_range] at hjn
      obtain ⟨hc, hLC, hCm, hZ, hwf, hnone, hcell⟩ := hrow j (by omega)
      have hq : ((Z j).take (L j)).length = L j := by rw [List.length_take]; omega
      refine ⟨[.slice (A' j) (L j) (C j)], rfl, ⟨A' j, C j, by rw [hq], by rw [hq]; exact hLC, ⟨rfl, by rw [hq]; unfold maxLen at hCm; omega, fun hp => ?_⟩⟩, fun i u hi => ?_⟩
      · rcases hA : A' j with _ | a'
        · have := hnone hA
          rw [hq] at hp
          omega
        · refine ⟨a', rfl, fun i q hi => ⟨[.int .u8 q], rfl, rfl, fun i2 u hi2 => ?_⟩⟩
          rcases i2 with _ | i2
          · obtain rfl := Option.some.inj hi2
            obtain ⟨hil, hiq⟩ := List.getElem?_eq_some_iff.1 hi
            rw [List.length_take] at hil
            have hc2 := (hcell a' hA).2 i (by omega)
            rw [List.getElem_take] at hiq
            rw [List.getD_eq_getElem?_getD, List.getElem?_eq_getElem (by omega), Option.getD_some, hiq] at hc2
            have hj1 : i * (Kd.int .u8).sz + 0 = i := by show i * 1 + 0 = i; omega
            rw [hj1]
            exact hc2
          · simp at hi2
      · rcases i with _ | i
        · obtain rfl := Option.some.inj hi
          have hj1 : j * (Kd.slice 5 (Kd.int .u8)).sz + 0 = j := by show j * 1 + 0 = j; omega
          rw [hj1]
          exact hc
        · simp at hi
    · intro r hr m hm2
      obtain ⟨j, hj, rfl⟩ := List.mem_map.1 hr
      exact (hrow j (by have := List.mem_range.1 hj; omega)).2.2.2.2.1 m (List.mem_of_mem_take hm2)
set_option maxRecDepth 100000 in
theorem open_range {W : World} {held : Bool} {base : Nat} {v : Value} {d : DataW H} {p : List MemPlace} (hv : Value.okWide Tryd.prog W .any base 35 v) (h : DataW.Trod enc Tryd.prog W 0 (fun _ => true) held 35 v d p) :
    ∃ (b e : Int) (A : Option Addr) (c : Nat) (l : List (List Int)), v = .agg #[.int .u64 b, .int .u64 e, .slice A l.length c] ∧ (Lit.int .u64 b).wf = true ∧ (Lit.int .u64 e).wf = true ∧ l.length ≤ c ∧ CL W A l ∧ ∀ r ∈ l, ∀ n ∈ r, (Lit.int .u8 n).wf = true := by
  obtain ⟨cs, rfl, hsz⟩ := okWide_struct Tryd.underlying35 hv
  rw [show Tryd.prog.cellsOf 35 = 3 by kernel_rfl] at hsz
  obtain ⟨l⟩ := cs
  match l, hsz with
  | [c0, c1, c2], _ =>
  obtain ⟨fuel, hf⟩ := h
  obtain ⟨xs, n, _, _, _, hlen, hfl⟩ := DataW.trod_struct Tryd.underlying35 hf
  have ex : ∀ i, i < 3 → ∃ y, xs[i]? = some y := fun i hi => ⟨_, List.getElem?_eq_getElem (by rw [hlen]; exact hi)⟩
  obtain ⟨b, e0, w0⟩ := open_field Tryd.underlying22 (by kernel_rfl) (ex 0 (by omega)) (hfl 0 _ rfl)
  obtain ⟨e, e1, w1⟩ := open_field Tryd.underlying22 (by kernel_rfl) (ex 1 (by omega)) (hfl 1 _ rfl)
  obtain ⟨⟨d2, p2⟩, hy2⟩ := ex 2 (by omega)
  have h2 := hfl 2 _ rfl
  rw [hy2] at h2
  obtain ⟨A, c, l, e2, hle, hC, hw⟩ := open_rows_cells h2
  replace e2 : List.take (Tryd.prog.cellsOf 25) (List.drop 2 (Value.agg { toList := [c0, c1, c2] }).cells.toList) = [.slice A l.length c] := e2
  rw [show Tryd.prog.cellsOf 25 = 1 by kernel_rfl] at e2
  simp [Value.cells] at e0 e1 e2
  subst e0 e1 e2
  exact ⟨b, e, A, c, l, rfl, w0, w1, hle, hC, hw⟩
end Go.Proofs.YtfhcpniibiobgaaDoor.Hs
