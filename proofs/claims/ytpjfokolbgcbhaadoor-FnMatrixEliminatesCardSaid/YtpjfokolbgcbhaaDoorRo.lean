/- Rows of bytes that came in, opened. -/
import Derived.Test.YtpjfokolbgcbhaaDoorProg
import Derived.Test.YtpjfokolbgcbhaaDoorWMore
import Derived.WideShapes
import Derived.OpenShut
import Derived.Lib.SmallJoins
import Derived.Deep.Matrix
import Derived.ChangeSlices
namespace Go.Proofs.YtpjfokolbgcbhaaDoor.Ro
open Go.ChangeShapes Go.WideShapes Go.ChangeAt Go.RowKit
open Go.RowKit Go.Proofs.YtpjfokolbgcbhaaDoorW.PrintWords Go.Proofs.YtpjfokolbgcbhaaDoorW.PrintLast Go.Proofs.YtpjfokolbgcbhaaDoorW.PrintMore
variable {H : Type} {enc : TypeId × Value → H}
/-- Bytes that are read. -/
abbrev CB (w : World) (A : Option Addr) (l : List Int) : Prop := Kd.C (Kd.int .u8) w A l.length l
/-- Byte slices that are read. -/
abbrev CL (w : World) (A : Option Addr) (l : List (List Int)) : Prop := Kd.C (Kd.slice 5 (Kd.int .u8)) w A l.length l
/-- Rows of bytes that came in. -/
theorem open_rows {W : World} {held : Bool} {base : Nat} {v : Value} {d : DataW H} {p : List MemPlace} (hv : Value.okWide Tryd.prog W .any base 30 v) (h : DataW.Trod enc Tryd.prog W 0 (fun _ => true) held 30 v d p) :
    ∃ (A : Option Addr) (c : Nat) (l : List (List Int)), v = .slice A l.length c ∧ l.length ≤ c ∧ CL W A l ∧ ∀ r ∈ l, ∀ n ∈ r, (Lit.int .u8 n).wf = true := by
  obtain ⟨A, n, c, rfl⟩ := okWide_slice Tryd.underlying30 hv
  obtain ⟨fuel, hf⟩ := h
  rcases Deep.open_int_rows Tryd.underlying30 Tryd.underlying24 Tryd.underlying5 (by kernel_rfl) (by kernel_rfl) hf with ⟨hcs, _⟩ | ⟨x, n', c', A', L, C, Z, hcs, _, hl, hm, _, hrow⟩
  · simp [Value.cells] at hcs
    obtain ⟨rfl, rfl, rfl⟩ := hcs
    exact ⟨none, 0, [], rfl, Nat.le_refl _, ⟨rfl, by simp, fun h => by simp at h⟩, fun n h => by simp at h⟩
  · simp [Value.cells] at hcs
    obtain ⟨rfl, rfl, rfl⟩ := hcs
    have hlt : ((List.range n).map fun r => (Z r).take (L r)).length = n := by simp
    refine ⟨some x, c, (List.range n).map fun r => (Z r).take (L r), by rw [hlt], by omega, ⟨rfl, by rw [hlt]; unfold maxLen at hm; omega, fun _ => ⟨x, rfl, fun j q hj => ?_⟩⟩, ?_⟩
    · rw [List.getElem?_map] at hj
      obtain ⟨j', hj', rfl⟩ := Option.map_eq_some_iff.1 hj
      obtain ⟨hjn, hje⟩ := List.getElem?_eq_some_iff.1 hj'
      rw [List.getElem_range] at hje
      subst hje
      rw [List.length_range] at hjn
      obtain ⟨hc, hLC, hCm, hZ, hwf, hnone, hcell⟩ := hrow j (by omega)
      have hq : ((Z j).take (L j)).length = L j := by rw [List.length_take]; omega
      refine ⟨[.slice (A' j) (L j) (C j)], rfl, ⟨A' j, C j, by rw [hq], by rw [hq]; exact hLC, ⟨rfl, by rw [hq]; unfold maxLen at hCm; omega, fun hp => ?_⟩⟩, fun i u hi => ?_⟩
      · rcases hA : A' j with _ | a'
        · have := hnone hA
          rw [hq] at hp
          omega
        · refine ⟨a', rfl, fun i q hi => ⟨[.int .u8 q], rfl, rfl, fun i2 u hi2 => ?_⟩⟩
          rcases i2 with _ | i2
          · obtain rfl := Option.some.inj hi2
            obtain ⟨hil, hiq⟩ := List.getElem?_eq_some_iff.1 hi
            rw [List.length_take] at hil
            have hc2 := (hcell a' hA).2 i (by omega)
            rw [List.getElem_take] at hiq
            rw [List.getD_eq_getElem?_getD, List.getElem?_eq_getElem (by omega), Option.getD_some, hiq] at hc2
            have hj1 : i * (Kd.int .u8).sz + 0 = i := by show i * 1 + 0 = i; omega
            rw [hj1]
            exact hc2
          · simp at hi2
      · rcases i with _ | i
        · obtain rfl := Option.some.inj hi
          have hj1 : j * (Kd.slice 5 (Kd.int .u8)).sz + 0 = j := by show j * 1 + 0 = j; omega
          rw [hj1]
          exact hc
        · simp at hi
    · intro r hr m hm2
      obtain ⟨j, hj, rfl⟩ := List.mem_map.1 hr
      exact (hrow j (by have := List.mem_range.1 hj; omega)).2.2.2.2.1 m (List.mem_of_mem_take hm2)
end Go.Proofs.YtpjfokolbgcbhaaDoor.Ro
