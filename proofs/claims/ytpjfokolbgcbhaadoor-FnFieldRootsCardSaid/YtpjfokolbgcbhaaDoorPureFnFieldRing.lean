/- The program's multiplication of bytes does not depend on order or grouping, goes through sums, and leaves everything as it is by 1. Conditions: none. -/
import Derived.Test.YtpjfokolbgcbhaaDoorF
import Derived.Test.YtpjfokolbgcbhaaDoorQx1
import Derived.OpenShut
import Derived.Laws.BitsLemmas
namespace Go.Proofs.YtpjfokolbgcbhaaDoor.Pure
open Go.RowKit Go.Proofs.YtpjfokolbgcbhaaDoor Go.Proofs.YtpjfokolbgcbhaaDoor.Q Go.Proofs.YtpjfokolbgcbhaaDoorW.PrintWords Go.Proofs.YtpjfokolbgcbhaaDoorW.PrintLast

theorem mul_of (a b : Nat) (ha : a < 256) (hb : b < 256) : impl_Mul.f (a : Int) (b : Int) = some ((gmul a b : Nat) : Int) := by
  unfold impl_Mul.f reedsolomon_DoorMultiply.f reedsolomon_galMultiply.f
  rw [if_pos (by omega), Int.toNat_natCast, Int.toNat_natCast]
  rfl
theorem xor_u8 (a b : Nat) (ha : a < 256) (hb : b < 256) : Go.bits .xor .u8 (a : Int) (b : Int) = ((a ^^^ b : Nat) : Int) := by
  have hx : a ^^^ b < 2 ^ 8 := Nat.xor_lt_two_pow (by omega) (by omega)
  have h1 : (BitVec.ofInt 8 (a : Int)).toNat = a := by
    rw [BitVec.ofInt_natCast, BitVec.toNat_ofNat]; exact Nat.mod_eq_of_lt (by omega)
  have h2 : (BitVec.ofInt 8 (b : Int)).toNat = b := by
    rw [BitVec.ofInt_natCast, BitVec.toNat_ofNat]; exact Nat.mod_eq_of_lt (by omega)
  show IntKind.u8.wrap ((BitVec.ofInt 8 (a : Int) ^^^ BitVec.ofInt 8 (b : Int)).toNat : Int) = _
  rw [BitVec.toNat_xor, h1, h2]
  show ((a ^^^ b : Nat) : Int) % 256 = _
  omega
theorem add_of (a b : Nat) (ha : a < 256) (hb : b < 256) : impl_Add.f (a : Int) (b : Int) = some ((a ^^^ b : Nat) : Int) := by
  unfold impl_Add.f reedsolomon_DoorAdd.f reedsolomon_galAdd.f
  rw [xor_u8 a b ha hb]
  rfl

theorem FnFieldRing : laws_FnFieldRing.Pure := by
  intro a0 a1 a2 w0 w1 w2
  have b0 := bounds_u8 w0
  have b1 := bounds_u8 w1
  have b2 := bounds_u8 w2
  obtain ⟨a, rfl⟩ := Int.eq_ofNat_of_zero_le b0.1
  obtain ⟨b, rfl⟩ := Int.eq_ofNat_of_zero_le b1.1
  obtain ⟨c, rfl⟩ := Int.eq_ofNat_of_zero_le b2.1
  have ha : a < 256 := by omega
  have hb : b < 256 := by omega
  have hc : c < 256 := by omega
  unfold laws_FnFieldRing.f
  rw [mul_of a b ha hb, mul_of b a hb ha, mul_of b c hb hc, mul_of a c ha hc, add_of b c hb hc]
  simp only [Option.bind_some]
  rw [if_pos (by rw [gmul_comm]), mul_of a _ ha (gmul_lt _ _), mul_of _ c (gmul_lt _ _) hc]
  simp only [Option.bind_some]
  rw [if_pos (by rw [gmul_assoc]), mul_of a _ ha (xor_lt hb hc), add_of _ _ (gmul_lt _ _) (gmul_lt _ _)]
  simp only [Option.bind_some]
  rw [if_pos (by rw [gmul_xor a ha hb hc]), show (1 : Int) = ((1 : Nat) : Int) from rfl, mul_of a 1 ha (by omega), show (0 : Int) = ((0 : Nat) : Int) from rfl, mul_of a 0 ha (by omega)]
  simp only [Option.bind_some]
  rw [if_pos (by rw [gmul_one ha]), gmul_zero_right]
  rfl

end Go.Proofs.YtpjfokolbgcbhaaDoor.Pure
