/- Hashing up along a border, walked; errors.New. -/
import Derived.Test.YtfhcpniibiobgaaDoorQfx
import Derived.Test.YtfhcpniibiobgaaDoorQfx1
import Derived.Test.YtfhcpniibiobgaaDoorQfx2
namespace Go.Proofs.YtfhcpniibiobgaaDoor.Qf
open Go.RowKit Go.Proofs.YtfhcpniibiobgaaDoorW.PrintWords Go.Proofs.YtfhcpniibiobgaaDoorW.PrintLast Go.Proofs.YtfhcpniibiobgaaDoorW.PrintMore
open Hs (CB CL at_L at_B infoB infoL R_of_blk)

theorem w64_in (n : Int) (h : -9223372036854775808 ≤ n ∧ n ≤ 9223372036854775807) : wrap64 n = n := by unfold wrap64; omega

/-- A value of our hash function, as an interface holds it. -/
abbrev toyV (a0 a1 a2 a3 a4 a5 : Int) : Value := .iface 90 (.agg #[.int .i64 a0, .int .i64 a1, .int .i64 a2, .int .u64 a3, .int .u64 a4, .int .u64 a5])

theorem meth_hc (a0 a1 a2 a3 a4 a5 : Int) (W : World) : (method 304 90 (.agg #[.int .i64 a0, .int .i64 a1, .int .i64 a2, .int .u64 a3, .int .u64 a4, .int .u64 a5]) "HashChildren").run Tryd.prog W = .ok (53, .agg #[.int .i64 a0, .int .i64 a1, .int .i64 a2, .int .u64 a3, .int .u64 a4, .int .u64 a5]) W := by kernel_rfl

/-- Hashing up along a border: the others to the left. -/
def chainB (a0 a1 a2 a3 a4 a5 : Int) : List (List Int) → List Int → Option (List Int)
  | [], s => some s
  | h :: t, s => (impl_toy_HashChildren.f a0 a1 a2 a3 a4 a5 h s).bind fun s' => chainB a0 a1 a2 a3 a4 a5 t s'

set_option maxHeartbeats 1000000 in
set_option maxRecDepth 100000 in
theorem chainBorder_calls (a0 a1 a2 a3 a4 a5 : Int) (A1 : Option Addr) (c1 : Nat) (s : List Int) (A2 : Option Addr) (c2 : Nat) (l : List (List Int)) (r : List Int) (w : World) (hs : CB w A1 s) (hsc : s.length ≤ c1) (hl : CL w A2 l) (hll : l.length ≤ 5864062014805) (h : chainB a0 a1 a2 a3 a4 a5 l s = some r) :
    Calls Tryd.prog 91 #[toyV a0 a1 a2 a3 a4 a5, .slice A1 s.length c1, .slice A2 l.length c2] w fun e w' => ∃ A c, e = .returned (.slice A r.length c) ∧ r.length ≤ c ∧ CB w' A r ∧ Below w.heap.size w w' := by
  have HS := Aside0.mk hs
  have HL := Aside0.mk hl
  have HH := Aside0.mk h
  clear hs hl h
  have hm := meth_hc a0 a1 a2 a3 a4 a5
  go_enter Tryd.func91, Tryd.ntmps91
  go_wp2
  (try simp only [Act.put, List.setIfInBounds_toArray, List.set_cons_zero, List.set_cons_succ])
  go_loopg [1, 11] l.length (fun kq v1 v13 wr => ∃ (j : Nat) (s' : List Int) (A' : Option Addr) (c' : Nat), j + kq = l.length ∧ v13 = .int .i64 (j : Nat) ∧ v1 = .slice A' s'.length c' ∧ Aside0 (s'.length ≤ c') ∧ Aside0 (CB wr A' s') ∧ Aside0 (CL wr A2 l) ∧ Aside0 (chainB a0 a1 a2 a3 a4 a5 (l.drop j) s' = some r) ∧ Aside0 (Below w.heap.size w wr))
  case atStart => exact ⟨0, s, A1, c1, by omega, rfl, rfl, ⟨hsc⟩, HS, HL, HH, ⟨Below.refl _ _⟩⟩
  case round =>
    clear HS HL HH
    obtain ⟨j, s', A', c', hj, rfl, rfl, HSC, HS, HL, HH, HB⟩ := hrel
    by_cases hlt : j < l.length
    · obtain ⟨ad, Ah, ch, ead, hx, hlh, hCh⟩ := at_L HL.out j hlt
      cases ead
      have hd : l.drop j = l.getD j [] :: l.drop (j + 1) := by
        rw [List.drop_eq_getElem_cons hlt, List.getD_eq_getElem?_getD, List.getElem?_eq_getElem hlt]; rfl
      have hh := HH.out
      rw [hd] at hh
      generalize l.getD j [] = hsh at hh hx hlh hCh
      have HCh := Aside0.mk hCh
      have HLh := Aside0.mk hlh
      simp only [chainB] at hh
      obtain ⟨s2, hs2, hh2⟩ := Option.bind_eq_some_iff.mp hh
      have HH2 := Aside0.mk hh2
      have HS2 := Aside0.mk hs2
      clear hd hh hh2 hs2
      go_wp2_with (go_at_call 53; (with_reducible refine (impl_toy_HashChildren.calls a0 a1 a2 a3 a4 a5 _ _ hsh _ _ s' s2 _ HCh.out HLh.out HS.out HSC.out HS2.out).mono ?_); rintro e w3 ⟨v3, rfl, hR3, hb3⟩; obtain ⟨A3, c3, rfl, hl3, hC3⟩ := Kd.R_reads hR3; have HC3 := Aside0.mk hC3; have HL3 := Aside0.mk hl3; have HB3 := Aside0.mk hb3; clear hR3 hC3 hl3 hb3)
      go_roundg (l.length - (j + 1))
      case measure => omega
      case rel => exact ⟨j + 1, s2, _, _, by omega, by go_num, rfl, HL3, HC3, ⟨Kd.C_below HL.out HB3.out⟩, HH2, ⟨below_then HB.out HB.out.size HB3.out⟩⟩
    · obtain rfl : j = l.length := by omega
      have hh := HH.out
      rw [List.drop_length] at hh
      obtain rfl := Option.some.inj hh
      clear hh
      go_wp2
      go_ret
      exact ⟨_, _, rfl, HSC.out, HS.out, HB.out⟩

/-- What bytes.Equal and the reference's comparison say. -/
abbrev sameB (l m : List Int) : Bool := (strOfNums l).toList == (strOfNums m).toList

set_option maxHeartbeats 1000000 in
set_option maxRecDepth 100000 in
theorem errors_New.err (s : ByteArray) (w : World) : Calls Tryd.prog 87 #[.string s] w fun e w' => ∃ x, e = .returned (.iface 175 (.pointer (some x))) ∧ Below w.heap.size w w' := by
  go_enter Tryd.func87, Tryd.ntmps87
  go_wp2
  go_ret
  exact ⟨_, rfl, by repeat (first | (with_reducible first | exact Below.refl _ _ | apply below_alloc | apply pw_below_drewN | apply below_drew1) | exact Below.refl _ _)⟩

end Go.Proofs.YtfhcpniibiobgaaDoor.Qf
