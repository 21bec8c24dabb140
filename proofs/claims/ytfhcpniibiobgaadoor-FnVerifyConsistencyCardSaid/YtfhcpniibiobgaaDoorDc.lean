/- The consistency proof, walked: chaining up with those to the left alone; the ways that are told. -/
import Derived.Test.YtfhcpniibiobgaaDoorDa
namespace Go.Proofs.YtfhcpniibiobgaaDoor.Qf
open Go.RowKit Go.Proofs.YtfhcpniibiobgaaDoorW.PrintWords Go.Proofs.YtfhcpniibiobgaaDoorW.PrintLast Go.Proofs.YtfhcpniibiobgaaDoorW.PrintMore
open Hs (CB CL at_L at_B infoB infoL R_of_blk)

/-- Hashing up, with those to the left alone. -/
def chainR (a0 a1 a2 a3 a4 a5 : Int) (ix : Int) : List (List Int) → List Int → Nat → Option (List Int)
  | [], s, _ => some s
  | h :: t, s, i => (if Go.bits .and .u64 (ix / 2 ^ min i 64) 1 = 1 then impl_toy_HashChildren.f a0 a1 a2 a3 a4 a5 h s else some s).bind fun s' => chainR a0 a1 a2 a3 a4 a5 ix t s' (i + 1)

set_option maxHeartbeats 1000000 in
set_option maxRecDepth 100000 in
theorem chainRight_calls (a0 a1 a2 a3 a4 a5 ix : Int) (A1 : Option Addr) (c1 : Nat) (s : List Int) (A2 : Option Addr) (c2 : Nat) (l : List (List Int)) (r : List Int) (w : World) (hs : CB w A1 s) (hsc : s.length ≤ c1) (hl : CL w A2 l) (hll : l.length ≤ 5864062014805) (h : chainR a0 a1 a2 a3 a4 a5 ix l s 0 = some r) :
    Calls Tryd.prog 94 #[toyV a0 a1 a2 a3 a4 a5, .slice A1 s.length c1, .slice A2 l.length c2, .int .u64 ix] w fun e w' => ∃ A c, e = .returned (.slice A r.length c) ∧ r.length ≤ c ∧ CB w' A r ∧ Below w.heap.size w w' := by
  have HS := Aside0.mk hs
  have HL := Aside0.mk hl
  have HH := Aside0.mk h
  clear hs hl h
  have hm := meth_hc a0 a1 a2 a3 a4 a5
  go_enter Tryd.func94, Tryd.ntmps94
  go_wp2
  (try simp only [Act.put, List.setIfInBounds_toArray, List.set_cons_zero, List.set_cons_succ])
  go_loopg [1, 13] l.length (fun kq v1 v13 wr => ∃ (j : Nat) (s' : List Int) (A' : Option Addr) (c' : Nat), j + kq = l.length ∧ v13 = .int .i64 (j : Nat) ∧ v1 = .slice A' s'.length c' ∧ Aside0 (s'.length ≤ c') ∧ Aside0 (CB wr A' s') ∧ Aside0 (CL wr A2 l) ∧ Aside0 (chainR a0 a1 a2 a3 a4 a5 ix (l.drop j) s' j = some r) ∧ Aside0 (Below w.heap.size w wr))
  case atStart => exact ⟨0, s, A1, c1, by omega, rfl, rfl, ⟨hsc⟩, HS, HL, HH, ⟨Below.refl _ _⟩⟩
  case round =>
    clear HS HL HH
    obtain ⟨j, s', A', c', hj, rfl, rfl, HSC, HS, HL, HH, HB⟩ := hrel
    by_cases hlt : j < l.length
    · obtain ⟨ad, Ah, ch, ead, hx, hlh, hCh⟩ := at_L HL.out j hlt
      cases ead
      have hd : l.drop j = l.getD j [] :: l.drop (j + 1) := by
        rw [List.drop_eq_getElem_cons hlt, List.getD_eq_getElem?_getD, List.getElem?_eq_getElem hlt]; rfl
      have hh := HH.out
      rw [hd] at hh
      generalize l.getD j [] = hsh at hh hx hlh hCh
      have HCh := Aside0.mk hCh
      have HLh := Aside0.mk hlh
      simp only [chainR] at hh
      obtain ⟨s2, hs2, hh2⟩ := Option.bind_eq_some_iff.mp hh
      have HH2 := Aside0.mk hh2
      clear hd hh hh2
      by_cases hbit : Go.bits .and .u64 (ix / 2 ^ min j 64) 1 = 1
      · rw [if_pos hbit] at hs2
        have HS2 := Aside0.mk hs2
        clear hs2
        have hb2 : (Go.bits .and .u64 (ix / 2 ^ min j 64) 1 == 1) = true := by rw [hbit]; rfl
        clear hbit
        go_wp2_with (go_at_call 53; (with_reducible refine (impl_toy_HashChildren.calls a0 a1 a2 a3 a4 a5 _ _ hsh _ _ s' s2 _ HCh.out HLh.out HS.out HSC.out HS2.out).mono ?_); rintro e w3 ⟨v3, rfl, hR3, hb3⟩; obtain ⟨A3, c3, rfl, hl3, hC3⟩ := Kd.R_reads hR3; have HC3 := Aside0.mk hC3; have HL3 := Aside0.mk hl3; have HB3 := Aside0.mk hb3; clear hR3 hC3 hl3 hb3)
        go_roundg (l.length - (j + 1))
        case measure => omega
        case rel => exact ⟨j + 1, s2, _, _, by omega, by go_num, rfl, HL3, HC3, ⟨Kd.C_below HL.out HB3.out⟩, HH2, ⟨below_then HB.out HB.out.size HB3.out⟩⟩
      · rw [if_neg hbit] at hs2
        obtain rfl := Option.some.inj hs2
        clear hs2
        have hb2 : (Go.bits .and .u64 (ix / 2 ^ min j 64) 1 == 1) = false := by simpa using hbit
        clear hbit
        go_wp2
        go_roundg (l.length - (j + 1))
        case measure => omega
        case rel => exact ⟨j + 1, s', A', c', by omega, by go_num, rfl, HSC, HS, HL, HH2, HB⟩
    · obtain rfl : j = l.length := by omega
      have hh := HH.out
      rw [List.drop_length] at hh
      obtain rfl := Option.some.inj hh
      clear hh
      go_wp2
      go_ret
      exact ⟨_, _, rfl, HSC.out, HS.out, HB.out⟩

set_option maxHeartbeats 1000000 in
set_option maxRecDepth 100000 in
theorem vc_err1 (a0 a1 a2 a3 a4 a5 : Int) (s1 s2 : Nat) (A : Option Addr) (n c : Nat) (A1 : Option Addr) (n1 c1 : Nat) (A2 : Option Addr) (n2 c2 : Nat) (h : s2 < s1) (w : World) :
    Calls Tryd.prog 60 #[toyV a0 a1 a2 a3 a4 a5, .int .u64 (s1 : Nat), .int .u64 (s2 : Nat), .slice A n c, .slice A1 n1 c1, .slice A2 n2 c2] w fun e w' => ∃ x, e = .returned (.iface 175 (.pointer (some x))) ∧ Below w.heap.size w w' := by
  have t1 : decide (s2 < s1) = true := decide_eq_true (by omega)
  have t1i : decide ((s2 : Int) < (s1 : Int)) = true := decide_eq_true (by omega)
  clear h
  go_enter Tryd.func60, Tryd.ntmps60
  go_wp2_with (go_at_call 87; (with_reducible refine (errors_New.err _ _).mono ?_); rintro e w3 ⟨x, rfl, hb⟩; have HB := Aside0.mk hb; clear hb)
  go_ret
  exact ⟨_, rfl, HB.out⟩
set_option maxHeartbeats 1000000 in
set_option maxRecDepth 100000 in
theorem vc_err2 (a0 a1 a2 a3 a4 a5 : Int) (s1 s2 : Nat) (A : Option Addr) (n c : Nat) (A1 : Option Addr) (n1 c1 : Nat) (A2 : Option Addr) (n2 c2 : Nat) (h : s1 = s2) (hn : 0 < n) (w : World) :
    Calls Tryd.prog 60 #[toyV a0 a1 a2 a3 a4 a5, .int .u64 (s1 : Nat), .int .u64 (s2 : Nat), .slice A n c, .slice A1 n1 c1, .slice A2 n2 c2] w fun e w' => ∃ x, e = .returned (.iface 175 (.pointer (some x))) ∧ Below w.heap.size w w' := by
  have t1 : decide (s2 < s1) = false := decide_eq_false (by omega)
  have t1i : decide ((s2 : Int) < (s1 : Int)) = false := decide_eq_false (by omega)
  have t2 : (s1 == s2) = true := beq_iff_eq.2 (by omega)
  have t2i : ((s1 : Int) == (s2 : Int)) = true := beq_iff_eq.2 (by omega)
  have g1 : decide (0 < n) = true := decide_eq_true (by omega)
  have g1i : decide ((0 : Int) < (n : Int)) = true := decide_eq_true (by omega)
  clear h hn
  go_enter Tryd.func60, Tryd.ntmps60
  go_wp2_with (go_at_call 87; (with_reducible refine (errors_New.err _ _).mono ?_); rintro e w3 ⟨x, rfl, hb⟩; have HB := Aside0.mk hb; clear hb)
  go_ret
  exact ⟨_, rfl, HB.out⟩
set_option maxHeartbeats 1000000 in
set_option maxRecDepth 100000 in
theorem vc_err3 (a0 a1 a2 a3 a4 a5 : Int) (s1 s2 : Nat) (A : Option Addr) (n c : Nat) (A1 : Option Addr) (n1 c1 : Nat) (A2 : Option Addr) (n2 c2 : Nat) (h : s1 = 0) (h2 : s1 < s2) (hn : 0 < n) (w : World) :
    Calls Tryd.prog 60 #[toyV a0 a1 a2 a3 a4 a5, .int .u64 (s1 : Nat), .int .u64 (s2 : Nat), .slice A n c, .slice A1 n1 c1, .slice A2 n2 c2] w fun e w' => ∃ x, e = .returned (.iface 175 (.pointer (some x))) ∧ Below w.heap.size w w' := by
  have t1 : decide (s2 < s1) = false := decide_eq_false (by omega)
  have t1i : decide ((s2 : Int) < (s1 : Int)) = false := decide_eq_false (by omega)
  have t2 : (s1 == s2) = false := beq_eq_false_iff_ne.2 (by omega)
  have t2i : ((s1 : Int) == (s2 : Int)) = false := beq_eq_false_iff_ne.2 (by omega)
  have t3 : (s1 == 0) = true := beq_iff_eq.2 (by omega)
  have t3i : ((s1 : Int) == (0 : Int)) = true := beq_iff_eq.2 (by omega)
  have g1 : decide (0 < n) = true := decide_eq_true (by omega)
  have g1i : decide ((0 : Int) < (n : Int)) = true := decide_eq_true (by omega)
  clear h h2 hn
  go_enter Tryd.func60, Tryd.ntmps60
  go_wp2_with (go_at_call 87; (with_reducible refine (errors_New.err _ _).mono ?_); rintro e w3 ⟨x, rfl, hb⟩; have HB := Aside0.mk hb; clear hb)
  go_ret
  exact ⟨_, rfl, HB.out⟩
set_option maxHeartbeats 1000000 in
set_option maxRecDepth 100000 in
theorem vc_err4 (a0 a1 a2 a3 a4 a5 : Int) (s1 s2 : Nat) (A : Option Addr) (n c : Nat) (A1 : Option Addr) (n1 c1 : Nat) (A2 : Option Addr) (n2 c2 : Nat) (h : 0 < s1) (h2 : s1 < s2) (hn : n = 0) (w : World) :
    Calls Tryd.prog 60 #[toyV a0 a1 a2 a3 a4 a5, .int .u64 (s1 : Nat), .int .u64 (s2 : Nat), .slice A n c, .slice A1 n1 c1, .slice A2 n2 c2] w fun e w' => ∃ x, e = .returned (.iface 175 (.pointer (some x))) ∧ Below w.heap.size w w' := by
  have t1 : decide (s2 < s1) = false := decide_eq_false (by omega)
  have t1i : decide ((s2 : Int) < (s1 : Int)) = false := decide_eq_false (by omega)
  have t2 : (s1 == s2) = false := beq_eq_false_iff_ne.2 (by omega)
  have t2i : ((s1 : Int) == (s2 : Int)) = false := beq_eq_false_iff_ne.2 (by omega)
  have t3 : (s1 == 0) = false := beq_eq_false_iff_ne.2 (by omega)
  have t3i : ((s1 : Int) == (0 : Int)) = false := beq_eq_false_iff_ne.2 (by omega)
  have t4 : (n == 0) = true := beq_iff_eq.2 (by omega)
  have t4i : ((n : Int) == (0 : Int)) = true := beq_iff_eq.2 (by omega)
  clear h h2 hn
  go_enter Tryd.func60, Tryd.ntmps60
  go_wp2_with (go_at_call 87; (with_reducible refine (errors_New.err _ _).mono ?_); rintro e w3 ⟨x, rfl, hb⟩; have HB := Aside0.mk hb; clear hb)
  go_ret
  exact ⟨_, rfl, HB.out⟩
set_option maxHeartbeats 1000000 in
set_option maxRecDepth 100000 in
theorem vc_zero (a0 a1 a2 a3 a4 a5 : Int) (s1 s2 : Nat) (A : Option Addr) (n c : Nat) (A1 : Option Addr) (n1 c1 : Nat) (A2 : Option Addr) (n2 c2 : Nat) (h : s1 = 0) (h2 : s1 < s2) (hn : n = 0) (w : World) :
    Calls Tryd.prog 60 #[toyV a0 a1 a2 a3 a4 a5, .int .u64 (s1 : Nat), .int .u64 (s2 : Nat), .slice A n c, .slice A1 n1 c1, .slice A2 n2 c2] w fun e w' => e = .returned .nilIface ∧ w = w' := by
  have t1 : decide (s2 < s1) = false := decide_eq_false (by omega)
  have t1i : decide ((s2 : Int) < (s1 : Int)) = false := decide_eq_false (by omega)
  have t2 : (s1 == s2) = false := beq_eq_false_iff_ne.2 (by omega)
  have t2i : ((s1 : Int) == (s2 : Int)) = false := beq_eq_false_iff_ne.2 (by omega)
  have t3 : (s1 == 0) = true := beq_iff_eq.2 (by omega)
  have t3i : ((s1 : Int) == (0 : Int)) = true := beq_iff_eq.2 (by omega)
  have g1 : decide (0 < n) = false := decide_eq_false (by omega)
  have g1i : decide ((0 : Int) < (n : Int)) = false := decide_eq_false (by omega)
  clear h h2 hn
  go_enter Tryd.func60, Tryd.ntmps60
  go_wp2
  go_ret
  exact ⟨rfl, rfl⟩
end Go.Proofs.YtfhcpniibiobgaaDoor.Qf
