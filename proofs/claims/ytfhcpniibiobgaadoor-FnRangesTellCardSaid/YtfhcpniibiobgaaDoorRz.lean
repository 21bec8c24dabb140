/- How many nodes a range has, as the program reckons it. -/
import Derived.Test.YtfhcpniibiobgaaDoorPz
import Derived.Test.YtfhcpniibiobgaaDoorDecN
import Derived.Test.YtfhcpniibiobgaaDoorQfx1
namespace Go.Proofs.YtfhcpniibiobgaaDoor.Pure
open Go.RowKit Go.Proofs.YtfhcpniibiobgaaDoor.Qf Go.Proofs.YtfhcpniibiobgaaDoorW.PrintWords Go.Proofs.YtfhcpniibiobgaaDoorW.PrintLast
open Go.Proofs.YtfhcpniibiobgaaDoor.M (leftN rightN nodesN lstep rstep rightN_fuel leftN_len rightN_len pc y1 y2 y3)

theorem and64 (x m : Nat) (hx : x < 18446744073709551616) (hm : m < 18446744073709551616) : Go.bits .and .u64 (x : Int) (m : Int) = ((x &&& m : Nat) : Int) := bits_and_u64_nat x m hx hm

theorem bnd_of {z u w : Nat} (h : z ≤ 1085102592571150095) (hu : z + z / 256 = u) (hw : u + u / 65536 = w) : w + w / 4294967296 < 9223372036854775808 := by omega

theorem onesCount_of (x : Nat) (hx : x < 18446744073709551616) : bits_OnesCount64.f (x : Int) = some ((pc 64 x : Nat) : Int) := by
  unfold bits_OnesCount64.f
  have d2 : (x : Int) / 2 = ((x / 2 : Nat) : Int) := by omega
  have a1 : Go.bits .and .u64 ((x : Int) / 2) 6148914691236517205 = ((x / 2 &&& 6148914691236517205 : Nat) : Int) := by
    rw [d2]; exact and64 (x / 2) 6148914691236517205 (by omega) (by omega)
  have a2 : Go.bits .and .u64 (x : Int) 6148914691236517205 = ((x &&& 6148914691236517205 : Nat) : Int) := and64 x 6148914691236517205 hx (by omega)
  have l1 : x / 2 &&& 6148914691236517205 ≤ 6148914691236517205 := Nat.and_le_right
  have l2 : x &&& 6148914691236517205 ≤ 6148914691236517205 := Nat.and_le_right
  have s1 : IntKind.u64.wrap (Go.bits .and .u64 ((x : Int) / 2) 6148914691236517205 + Go.bits .and .u64 (x : Int) 6148914691236517205) = ((y1 6148914691236517205 x : Nat) : Int) := by
    rw [a1, a2, wu64 (by omega) (by omega)]
    unfold y1
    push_cast; rfl
  rw [s1]
  have k1 : y1 6148914691236517205 x < 18446744073709551616 := by unfold y1; omega
  obtain ⟨y, hy⟩ : ∃ y, y1 6148914691236517205 x = y := ⟨_, rfl⟩
  rw [hy] at k1 ⊢
  have d4 : (y : Int) / 4 = ((y / 4 : Nat) : Int) := by omega
  have a3 : Go.bits .and .u64 ((y : Int) / 4) 3689348814741910323 = ((y / 4 &&& 3689348814741910323 : Nat) : Int) := by
    rw [d4]; exact and64 (y / 4) 3689348814741910323 (by omega) (by omega)
  have a4 : Go.bits .and .u64 (y : Int) 3689348814741910323 = ((y &&& 3689348814741910323 : Nat) : Int) := and64 y 3689348814741910323 k1 (by omega)
  have l3 : y / 4 &&& 3689348814741910323 ≤ 3689348814741910323 := Nat.and_le_right
  have l4 : y &&& 3689348814741910323 ≤ 3689348814741910323 := Nat.and_le_right
  have s2 : IntKind.u64.wrap (Go.bits .and .u64 ((y : Int) / 4) 3689348814741910323 + Go.bits .and .u64 (y : Int) 3689348814741910323) = ((y2 3689348814741910323 y : Nat) : Int) := by
    rw [a3, a4, wu64 (by omega) (by omega)]
    unfold y2
    push_cast; rfl
  rw [s2]
  have k2 : y2 3689348814741910323 y ≤ 7378697629483820646 := by unfold y2; omega
  obtain ⟨v, hv⟩ : ∃ v, y2 3689348814741910323 y = v := ⟨_, rfl⟩
  rw [hv] at k2 ⊢
  have s3 : Go.bits .and .u64 (IntKind.u64.wrap ((v : Int) / 16 + (v : Int))) 1085102592571150095 = ((y3 1085102592571150095 v : Nat) : Int) := by
    rw [wu64 (by omega) (by omega), show (v : Int) / 16 + (v : Int) = ((v / 16 + v : Nat) : Int) by omega]
    exact and64 (v / 16 + v) 1085102592571150095 (by omega) (by omega)
  rw [s3]
  have k3 : y3 1085102592571150095 v ≤ 1085102592571150095 := Nat.and_le_right
  obtain ⟨z, hz⟩ : ∃ z, y3 1085102592571150095 v = z := ⟨_, rfl⟩
  rw [hz] at k3 ⊢
  have s4 : IntKind.u64.wrap ((z : Int) + (z : Int) / 256) = ((z + z / 256 : Nat) : Int) := by rw [wu64 (by omega) (by omega)]; omega
  rw [s4]
  obtain ⟨u, hu⟩ : ∃ u, z + z / 256 = u := ⟨_, rfl⟩
  rw [hu]
  have s5 : IntKind.u64.wrap ((u : Int) + (u : Int) / 65536) = ((u + u / 65536 : Nat) : Int) := by rw [wu64 (by omega) (by omega)]; omega
  rw [s5]
  obtain ⟨w, hw⟩ : ∃ w, u + u / 65536 = w := ⟨_, rfl⟩
  rw [hw]
  have s6 : wrap64 (IntKind.u64.wrap ((w : Int) + (w : Int) / 4294967296)) = ((w + w / 4294967296 : Nat) : Int) := by rw [wu64 (by omega) (by omega), w64 (by omega) (by omega)]; omega
  rw [s6]
  have hbnd : w + w / 4294967296 < 9223372036854775808 := bnd_of k3 hu hw
  have hs := M.swar x z u w hx (by rw [← hz, ← hv, ← hy]) hu.symm hw.symm
  have n63 : (2 : Nat) ^ 63 = 9223372036854775808 := by decide
  have hb := (bits_nat .i64 63 (by decide) (fun n h0 h1 => by
    have h63 : (2 : Int) ^ 63 = 9223372036854775808 := by decide
    rw [h63] at h1
    rw [IntKind.wrap_i64]; omega) (w + w / 4294967296) 127 (by rw [n63]; exact hbnd) (by rw [n63]; decide)).1
  have hmod : (w + w / 4294967296) &&& 127 = (w + w / 4294967296) % 128 := Nat.and_two_pow_sub_one_eq_mod _ 7
  rw [hmod, hs] at hb
  exact congrArg some hb

/-- The leaves of a node. -/
theorem size_add {n m a b : Nat} (h1 : n = a) (h2 : m = b) (h3 : n ≤ 64) (h4 : m ≤ 64) : wrap64 ((a : Int) + (b : Int)) = ((n + m : Nat) : Int) := by
  subst h1 h2
  rw [w64 (by omega) (by omega)]
  push_cast; rfl

theorem lt_of_cut {b e L R X : Nat} (lo : b + L = X) (hi : X + R = e) (he : e < 18446744073709551616) : L < 18446744073709551616 ∧ R < 18446744073709551616 := by omega

theorem len128 (X e L R : Nat) : (nodesN X e L R).length ≤ 128 := by
  have h1 := leftN_len 64 X L
  have h2 := rightN_len 64 e R
  rw [nodesN, List.length_append]
  exact Nat.add_le_add h1 h2

theorem size_raw {b e L R g1 g2 : Int} (hf : compact_Decompose.f b e = some (L, R)) (h1 : bits_OnesCount64.f L = some g1) (h2 : bits_OnesCount64.f R = some g2) :
    compact_RangeSize.f b e = some (wrap64 (g1 + g2)) := by
  unfold compact_RangeSize.f
  rw [hf, Option.bind_some, h1, Option.bind_some, h2, Option.bind_some]

theorem nodesN_len {X e L R d : Nat} (hd : d ≤ 64) (hr : R < 2 ^ d) : (nodesN X e L R).length = (leftN 64 X L).length + (rightN d e R).length := by
  rw [nodesN, M.rightN_fuel d 64 e R hd (Nat.le_refl _) hr, List.length_append]

theorem size_of {b e L R X d : Nat} (hf : compact_Decompose.f (b : Int) (e : Int) = some ((L : Int), (R : Int))) (hm : Mid b e L R X d) (he : e < 18446744073709551616) :
    compact_RangeSize.f (b : Int) (e : Int) = some (((nodesN X e L R).length : Nat) : Int) := by
  have hX : L ≤ X := by have := hm.lo; omega
  have hlt := lt_of_cut hm.lo hm.hi he
  have p1 := M.leftN_pc X d hm.d64 hm.dvd 64 L (Nat.le_refl _) hm.l hX (by simp)
  have p2 := M.rightN_pc e d R hm.d64 hm.r
  have q1 := leftN_len 64 X L
  have q := Nat.le_trans (rightN_len d e R) hm.d64
  have s := size_raw hf (onesCount_of L hlt.1) (onesCount_of R hlt.2)
  rw [nodesN_len hm.d64 hm.r]
  exact s.trans (congrArg some (size_add p1 p2 q1 q))
end Go.Proofs.YtfhcpniibiobgaaDoor.Pure
