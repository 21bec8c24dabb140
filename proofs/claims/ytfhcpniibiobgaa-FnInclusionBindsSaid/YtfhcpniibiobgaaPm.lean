/- The two lengths that the program reckons with, in bits: plain. -/
import Derived.Test.YtfhcpniibiobgaaPk
namespace Go.Proofs.Ytfhcpniibiobgaa.Pure
open Go.RowKit Go.Proofs.YtfhcpniibiobgaaW.PrintWords Go.Proofs.YtfhcpniibiobgaaW.PrintMore Go.Proofs.YtfhcpniibiobgaaW.PrintLast
open Go.Proofs.Ytfhcpniibiobgaa.M (vlen inn pc y1 y2 y3)
theorem wu64 {n : Int} (h0 : 0 ≤ n) (h1 : n < 18446744073709551616) : IntKind.u64.wrap n = n := wu n ⟨h0, h1⟩
theorem w64 {n : Int} (h0 : -9223372036854775808 ≤ n) (h1 : n ≤ 9223372036854775807) : wrap64 n = n := by
  unfold wrap64; omega
theorem and64 (x m : Nat) (hx : x < 18446744073709551616) (hm : m < 18446744073709551616) : Go.bits .and .u64 (x : Int) (m : Int) = ((x &&& m : Nat) : Int) := bits_and_u64_nat x m hx hm

theorem bnd_of {z u w : Nat} (h : z ≤ 1085102592571150095) (hu : z + z / 256 = u) (hw : u + u / 65536 = w) : w + w / 4294967296 < 9223372036854775808 := by omega

theorem onesCount_of (x : Nat) (hx : x < 18446744073709551616) : Qf.bits_OnesCount64.f (x : Int) = some ((pc 64 x : Nat) : Int) := by
  unfold Qf.bits_OnesCount64.f
  have d2 : (x : Int) / 2 = ((x / 2 : Nat) : Int) := by omega
  have a1 : Go.bits .and .u64 ((x : Int) / 2) 6148914691236517205 = ((x / 2 &&& 6148914691236517205 : Nat) : Int) := by
    rw [d2]; exact and64 (x / 2) 6148914691236517205 (by omega) (by omega)
  have a2 : Go.bits .and .u64 (x : Int) 6148914691236517205 = ((x &&& 6148914691236517205 : Nat) : Int) := and64 x 6148914691236517205 hx (by omega)
  have l1 : x / 2 &&& 6148914691236517205 ≤ 6148914691236517205 := Nat.and_le_right
  have l2 : x &&& 6148914691236517205 ≤ 6148914691236517205 := Nat.and_le_right
  have s1 : IntKind.u64.wrap (Go.bits .and .u64 ((x : Int) / 2) 6148914691236517205 + Go.bits .and .u64 (x : Int) 6148914691236517205) = ((y1 6148914691236517205 x : Nat) : Int) := by
    rw [a1, a2, wu64 (by omega) (by omega)]
    unfold y1
    push_cast; rfl
  rw [s1]
  have k1 : y1 6148914691236517205 x < 18446744073709551616 := by unfold y1; omega
  obtain ⟨y, hy⟩ : ∃ y, y1 6148914691236517205 x = y := ⟨_, rfl⟩
  rw [hy] at k1 ⊢
  have d4 : (y : Int) / 4 = ((y / 4 : Nat) : Int) := by omega
  have a3 : Go.bits .and .u64 ((y : Int) / 4) 3689348814741910323 = ((y / 4 &&& 3689348814741910323 : Nat) : Int) := by
    rw [d4]; exact and64 (y / 4) 3689348814741910323 (by omega) (by omega)
  have a4 : Go.bits .and .u64 (y : Int) 3689348814741910323 = ((y &&& 3689348814741910323 : Nat) : Int) := and64 y 3689348814741910323 k1 (by omega)
  have l3 : y / 4 &&& 3689348814741910323 ≤ 3689348814741910323 := Nat.and_le_right
  have l4 : y &&& 3689348814741910323 ≤ 3689348814741910323 := Nat.and_le_right
  have s2 : IntKind.u64.wrap (Go.bits .and .u64 ((y : Int) / 4) 3689348814741910323 + Go.bits .and .u64 (y : Int) 3689348814741910323) = ((y2 3689348814741910323 y : Nat) : Int) := by
    rw [a3, a4, wu64 (by omega) (by omega)]
    unfold y2
    push_cast; rfl
  rw [s2]
  have k2 : y2 3689348814741910323 y ≤ 7378697629483820646 := by unfold y2; omega
  obtain ⟨v, hv⟩ : ∃ v, y2 3689348814741910323 y = v := ⟨_, rfl⟩
  rw [hv] at k2 ⊢
  have s3 : Go.bits .and .u64 (IntKind.u64.wrap ((v : Int) / 16 + (v : Int))) 1085102592571150095 = ((y3 1085102592571150095 v : Nat) : Int) := by
    rw [wu64 (by omega) (by omega), show (v : Int) / 16 + (v : Int) = ((v / 16 + v : Nat) : Int) by omega]
    exact and64 (v / 16 + v) 1085102592571150095 (by omega) (by omega)
  rw [s3]
  have k3 : y3 1085102592571150095 v ≤ 1085102592571150095 := Nat.and_le_right
  obtain ⟨z, hz⟩ : ∃ z, y3 1085102592571150095 v = z := ⟨_, rfl⟩
  rw [hz] at k3 ⊢
  have s4 : IntKind.u64.wrap ((z : Int) + (z : Int) / 256) = ((z + z / 256 : Nat) : Int) := by rw [wu64 (by omega) (by omega)]; omega
  rw [s4]
  obtain ⟨u, hu⟩ : ∃ u, z + z / 256 = u := ⟨_, rfl⟩
  rw [hu]
  have s5 : IntKind.u64.wrap ((u : Int) + (u : Int) / 65536) = ((u + u / 65536 : Nat) : Int) := by rw [wu64 (by omega) (by omega)]; omega
  rw [s5]
  obtain ⟨w, hw⟩ : ∃ w, u + u / 65536 = w := ⟨_, rfl⟩
  rw [hw]
  have s6 : wrap64 (IntKind.u64.wrap ((w : Int) + (w : Int) / 4294967296)) = ((w + w / 4294967296 : Nat) : Int) := by rw [wu64 (by omega) (by omega), w64 (by omega) (by omega)]; omega
  rw [s6]
  have hbnd : w + w / 4294967296 < 9223372036854775808 := bnd_of k3 hu hw
  have hs := M.swar x z u w hx (by rw [← hz, ← hv, ← hy]) hu.symm hw.symm
  have n63 : (2 : Nat) ^ 63 = 9223372036854775808 := by decide
  have hb := (bits_nat .i64 63 (by decide) (fun n h0 h1 => by
    have h63 : (2 : Int) ^ 63 = 9223372036854775808 := by decide
    rw [h63] at h1
    rw [IntKind.wrap_i64]; omega) (w + w / 4294967296) 127 (by rw [n63]; exact hbnd) (by rw [n63]; decide)).1
  have hmod : (w + w / 4294967296) &&& 127 = (w + w / 4294967296) % 128 := Nat.and_two_pow_sub_one_eq_mod _ 7
  rw [hmod, hs] at hb
  exact congrArg some hb

/-- The leaves of a node. -/
theorem pc_le : ∀ (f x : Nat), pc f x ≤ f
  | 0, _ => Nat.le_refl _
  | f + 1, x => by
    rw [M.pc]
    have := pc_le f (x / 2)
    omega
theorem xor_lt (x y : Nat) (hx : x < 18446744073709551616) (hy : y < 18446744073709551616) : x ^^^ y < 18446744073709551616 := Nat.xor_lt_two_pow (n := 64) hx hy
theorem inn_le (x n : Nat) (hx : x < n) (hn : n < 18446744073709551616) : inn x n ≤ 64 := by
  unfold inn
  by_cases h : x ^^^ (n - 1) = 0
  · rw [h]
    exact Nat.zero_le _
  · exact (M.len_spec _ h (xor_lt x (n - 1) (by omega) (by omega))).2.1
theorem inn_lt (x n : Nat) (hx : x < n) (hn : n < 18446744073709551616) : x ^^^ (n - 1) < 2 ^ inn x n := by
  unfold inn
  by_cases h : x ^^^ (n - 1) = 0
  · rw [h]
    exact Nat.two_pow_pos _
  · exact (M.len_spec _ h (xor_lt x (n - 1) (by omega) (by omega))).2.2.2
theorem inn_gt (x n j : Nat) (hx : x < n) (hn : n < 18446744073709551616) (hj : j < inn x n) : 2 ^ j ≤ x ^^^ (n - 1) := by
  unfold inn at hj
  have h : x ^^^ (n - 1) ≠ 0 := by
    intro h
    rw [h] at hj
    exact absurd hj (by simp [Lib.bitLen, Lib.bitLenAux])
  have := (M.len_spec _ h (xor_lt x (n - 1) (by omega) (by omega))).2.2.1
  exact Nat.le_trans (Nat.pow_le_pow_right (by omega) (by omega)) this
theorem xor_eq (x y : Nat) (h : x ^^^ y = 0) : x = y := by
  have : (x ^^^ y) ^^^ y = 0 ^^^ y := by rw [h]
  rwa [Nat.xor_assoc, Nat.xor_self, Nat.xor_zero, Nat.zero_xor] at this
theorem same_hi (x y j : Nat) : x / 2 ^ j = y / 2 ^ j ↔ x ^^^ y < 2 ^ j := by
  have e : (x ^^^ y) / 2 ^ j = (x / 2 ^ j) ^^^ (y / 2 ^ j) := Nat.xor_div_two_pow
  constructor
  · intro h
    rw [h, Nat.xor_self] at e
    exact (Nat.div_eq_zero_iff_lt (Nat.two_pow_pos j)).1 e
  · intro h
    rw [Nat.div_eq_of_lt h] at e
    exact xor_eq _ _ e.symm
theorem inner_go (x n : Nat) (hx : x < n) (hn : n < 18446744073709551616) : ∀ (d j k : Nat), j + d = inn x n → d < k → Qg.spec_Inner.l0 k (x : Int) (n : Int) (j : Int) = some ((inn x n : Nat) : Int)
  | d, j, k, hj, hk => by
    obtain ⟨k, rfl⟩ : ∃ k', k = k' + 1 := ⟨k - 1, by omega⟩
    have h64 := inn_le x n hx hn
    have w : IntKind.u64.wrap ((n : Int) - 1) = ((n - 1 : Nat) : Int) := by rw [wu _ (by omega)]; omega
    have sh : ∀ y : Nat, shr .u64 (y : Int) (j : Int) = ((y / 2 ^ j : Nat) : Int) := by
      intro y
      show (y : Int) / 2 ^ min (j : Int).toNat 64 = _
      rw [Int.toNat_natCast, Nat.min_eq_left (by omega)]
      push_cast
      rfl
    rw [Qg.spec_Inner.l0, if_pos (by omega), w, sh, sh]
    match d with
    | 0 =>
      have e := (same_hi x (n - 1) j).2 (by rw [show j = inn x n by omega]; exact inn_lt x n hx hn)
      rw [if_pos (by rw [e]), show j = inn x n by omega]
    | d + 1 =>
      have e : ¬ x / 2 ^ j = (n - 1) / 2 ^ j := fun h => by
        have h1 := (same_hi x (n - 1) j).1 h
        have h2 := inn_gt x n j hx hn (by omega)
        omega
      rw [if_neg (by omega), w64p _ (by omega), show ((j : Int) + 1) = ((j + 1 : Nat) : Int) by omega]
      exact inner_go x n hx hn d (j + 1) k (by omega) (by omega)
termination_by d => d
theorem decomp_f (x n : Nat) (hx : x < n) (hn : n < 18446744073709551616) : Qf.proof_decompInclProof.f (x : Int) (n : Int) = some (((inn x n : Nat) : Int), ((pc 64 (x / 2 ^ inn x n) : Nat) : Int)) := by
  have h64 := inn_le x n hx hn
  have w : IntKind.u64.wrap ((n : Int) - 1) = ((n - 1 : Nat) : Int) := by rw [wu _ (by omega)]; omega
  have hxl := xor_lt x (n - 1) (by omega) (by omega)
  have hi : Qf.proof_innerProofSize.f (x : Int) (n : Int) = some ((inn x n : Nat) : Int) := by
    unfold Qf.proof_innerProofSize.f Qf.bits_Len64.f
    rw [w, bits_xor_u64_nat x (n - 1) (by omega) (by omega), if_pos (by omega), if_pos (by omega), Option.bind_some, Int.toNat_natCast]
    rfl
  unfold Qf.proof_decompInclProof.f
  rw [hi, Option.bind_some, wu _ (by omega), if_pos (by omega)]
  have sh : shr .u64 (x : Int) ((inn x n : Nat) : Int) = ((x / 2 ^ inn x n : Nat) : Int) := by
    show (x : Int) / 2 ^ min ((inn x n : Nat) : Int).toNat 64 = _
    rw [Int.toNat_natCast, Nat.min_eq_left h64]
    push_cast
    rfl
  rw [sh, onesCount_of _ (Nat.lt_of_le_of_lt (Nat.div_le_self _ _) (by omega)), Option.bind_some]
end Go.Proofs.Ytfhcpniibiobgaa.Pure
