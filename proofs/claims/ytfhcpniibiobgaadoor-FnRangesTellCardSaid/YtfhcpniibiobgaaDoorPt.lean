/- Two children are told from their hash; bytes are told from their text: plain. -/
import Derived.Test.YtfhcpniibiobgaaDoorPh
import Derived.Test.YtfhcpniibiobgaaDoorHs
import Derived.Test.YtfhcpniibiobgaaDoorCo
import Derived.Laws.Strings
namespace Go.Proofs.YtfhcpniibiobgaaDoor.Pure
open Go.RowKit Go.Proofs.YtfhcpniibiobgaaDoorW.PrintWords Go.Proofs.YtfhcpniibiobgaaDoorW.PrintMore Go.Proofs.YtfhcpniibiobgaaDoorW.PrintLast
open Hs (CB CL eqB sameF sameF_ne sameF_no sameF_yes)

/-- With terms, two children are told from their hash. -/
theorem wordF_inj {x y : Int} (hx : 0 ≤ x ∧ x < 18446744073709551616) (hy : 0 ≤ y ∧ y < 18446744073709551616) (h : Hs.wordF x 8 = Hs.wordF y 8) : x = y := by
  have g : ∀ i, i < 8 → Hs.wb x 8 i = Hs.wb y 8 i := fun i hi => by
    have h1 : (Hs.wordF x 8)[i]? = (Hs.wordF y 8)[i]? := by rw [h]
    unfold Hs.wordF at h1
    rw [show Hs.wn 8 = 8 from rfl, List.getElem?_map, List.getElem?_map, List.getElem?_range hi] at h1
    simpa using h1
  have g0 := g 0 (by omega)
  have g1 := g 1 (by omega)
  have g2 := g 2 (by omega)
  have g3 := g 3 (by omega)
  have g4 := g 4 (by omega)
  have g5 := g 5 (by omega)
  have g6 := g 6 (by omega)
  have g7 := g 7 (by omega)
  simp only [Hs.wb] at g0 g1 g2 g3 g4 g5 g6 g7
  simp at g0 g1 g2 g3 g4 g5 g6 g7
  omega
theorem hcF_inj {a0 a2 a5 : Int} (h0 : a0 ≠ 1) {l1 l2 m1 m2 : List Int} (b1 : l1.length < 18446744073709551616) (b2 : m1.length < 18446744073709551616) (h : hcF a0 a2 a5 l1 l2 = hcF a0 a2 a5 m1 m2) : l1 = m1 ∧ l2 = m2 := by
  unfold hcF at h
  rw [if_neg h0, if_neg h0, List.append_assoc, List.append_assoc, List.append_assoc, List.append_assoc] at h
  have hl : ∀ y : Int, (Hs.wordF y 8).length = 8 := fun y => by unfold Hs.wordF; rw [List.length_map, List.length_range]; rfl
  obtain ⟨_, h⟩ := List.append_inj h rfl
  obtain ⟨hw, h⟩ := List.append_inj h (by rw [hl, hl])
  have := wordF_inj (by omega) (by omega) hw
  exact List.append_inj h (by omega)
/-- Bytes. -/
def Bt (l : List Int) : Prop := ∀ x ∈ l, 0 ≤ x ∧ x < 256
theorem bt_of {l : List Int} (h : ∀ n ∈ l, (Lit.int .u8 n).wf = true) : Bt l := fun x hx => by
  have h2 : IntKind.u8.min ≤ x ∧ x ≤ IntKind.u8.max := by simpa [Lit.wf] using h x hx
  have e1 : IntKind.u8.min = 0 := rfl
  have e2 : IntKind.u8.max = 255 := rfl
  omega
theorem eqB_self (l : List Int) : eqB l l = true := by unfold eqB; exact BEq.rfl
theorem eqB_eq {l m : List Int} (hl : Bt l) (hm : Bt m) (h : eqB l m = true) : l = m := by
  unfold eqB at h
  have h1 : (strOfNums l).toList = (strOfNums m).toList := eq_of_beq h
  have h2 : (strOfNums l).data.toList = (strOfNums m).data.toList := by rw [← ByteArray.toList_eq, ← ByteArray.toList_eq]; exact h1
  rw [strOfNums_data, strOfNums_data] at h2
  have hlen : l.length = m.length := by simpa using congrArg List.length h2
  apply List.ext_getElem hlen
  intro i h3 h4
  have h5 : (l.map fun n => UInt8.ofNat n.toNat)[i]? = (m.map fun n => UInt8.ofNat n.toNat)[i]? := by rw [h2]
  rw [List.getElem?_map, List.getElem?_map, List.getElem?_eq_getElem h3, List.getElem?_eq_getElem h4] at h5
  simp only [Option.map_some, Option.some.injEq] at h5
  have b1 := hl l[i] (List.getElem_mem h3)
  have b2 := hm m[i] (List.getElem_mem h4)
  have h6 := congrArg UInt8.toNat h5
  rw [UInt8.toNat_ofNat', UInt8.toNat_ofNat'] at h6
  omega
theorem wordF_bt (w n : Int) : Bt (Hs.wordF w n) := fun x hx => by
  unfold Hs.wordF at hx
  obtain ⟨i, _, rfl⟩ := List.mem_map.1 hx
  unfold Hs.wb
  omega
theorem hcF_bt (a0 a2 a5 : Int) {l m : List Int} (hl : Bt l) (hm : Bt m) : Bt (hcF a0 a2 a5 l m) := by
  unfold hcF
  split
  · exact wordF_bt _ _
  · intro x hx
    rw [List.mem_append, List.mem_append, List.mem_append] at hx
    rcases hx with ((h | h) | h) | h
    · obtain rfl := List.mem_singleton.1 h; omega
    · exact wordF_bt _ _ x h
    · exact hl x h
    · exact hm x h
theorem sameF_self (L : List (List Int)) : sameF L L = true := sameF_yes rfl fun _ _ => eqB_self _
theorem sameF_eq {L M : List (List Int)} (hL : ∀ x ∈ L, Bt x) (hM : ∀ x ∈ M, Bt x) (h : sameF L M = true) : L = M := by
  unfold sameF at h
  rw [Bool.and_eq_true, decide_eq_true_eq, List.all_eq_true] at h
  refine List.ext_getElem h.1 fun i h1 h2 => ?_
  have h3 := h.2 i (List.mem_range.2 h1)
  rw [List.getD_eq_getElem?_getD, List.getD_eq_getElem?_getD, List.getElem?_eq_getElem h1, List.getElem?_eq_getElem h2] at h3
  exact eqB_eq (hL _ (List.getElem_mem h1)) (hM _ (List.getElem_mem h2)) h3
theorem sameF_iff {L M : List (List Int)} (hL : ∀ x ∈ L, Bt x) (hM : ∀ x ∈ M, Bt x) : sameF L M = decide (L = M) := by
  by_cases h : L = M
  · subst h
    rw [sameF_self, decide_eq_true rfl]
  · rw [decide_eq_false h]
    rcases hh : sameF L M with _ | _
    · rfl
    · exact absurd (sameF_eq hL hM hh) h
end Go.Proofs.YtfhcpniibiobgaaDoor.Pure
