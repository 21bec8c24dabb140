/- Several texts, joined. -/
import Derived.Test.YtfhcpniibiobgaaDoorQfx
import Derived.Deep.RegionHeld3
namespace Go.Proofs.YtfhcpniibiobgaaDoor.Qe
open Go.Proofs.YtfhcpniibiobgaaDoor.Qf
open Go.RowKit Go.Proofs.YtfhcpniibiobgaaDoorW.PrintWords Go.Proofs.YtfhcpniibiobgaaDoorW.PrintLast Go.Proofs.YtfhcpniibiobgaaDoorW.PrintMore
open Hs (CB CL at_L at_B infoB infoL R_of_blk)
theorem w64_in (n : Int) (h : -9223372036854775808 ≤ n ∧ n ≤ 9223372036854775807) : wrap64 n = n := by unfold wrap64; omega
abbrev toyV (a0 a1 a2 a3 a4 a5 : Int) : Value := .iface 90 (.agg #[.int .i64 a0, .int .i64 a1, .int .i64 a2, .int .u64 a3, .int .u64 a4, .int .u64 a5])
theorem meth_hc (a0 a1 a2 a3 a4 a5 : Int) (W : World) : (method 304 90 (.agg #[.int .i64 a0, .int .i64 a1, .int .i64 a2, .int .u64 a3, .int .u64 a4, .int .u64 a5]) "HashChildren").run Tryd.prog W = .ok (53, .agg #[.int .i64 a0, .int .i64 a1, .int .i64 a2, .int .u64 a3, .int .u64 a4, .int .u64 a5]) W := by kernel_rfl
theorem meth_size (a0 a1 a2 a3 a4 a5 : Int) (W : World) : (method 304 90 (.agg #[.int .i64 a0, .int .i64 a1, .int .i64 a2, .int .u64 a3, .int .u64 a4, .int .u64 a5]) "Size").run Tryd.prog W = .ok (138, .agg #[.int .i64 a0, .int .i64 a1, .int .i64 a2, .int .u64 a3, .int .u64 a4, .int .u64 a5]) W := by kernel_rfl
def chainI (a0 a1 a2 a3 a4 a5 : Int) (ix : Int) : List (List Int) → List Int → Nat → Option (List Int)
  | [], s, _ => some s
  | h :: t, s, i => (if Go.bits .and .u64 (ix / 2 ^ min i 64) 1 = 0 then impl_toy_HashChildren.f a0 a1 a2 a3 a4 a5 s h else impl_toy_HashChildren.f a0 a1 a2 a3 a4 a5 h s).bind fun s' => chainI a0 a1 a2 a3 a4 a5 ix t s' (i + 1)
set_option maxHeartbeats 1000000 in
set_option maxRecDepth 100000 in
theorem chainInner_calls (a0 a1 a2 a3 a4 a5 ix : Int) (A1 : Option Addr) (c1 : Nat) (s : List Int) (A2 : Option Addr) (c2 : Nat) (l : List (List Int)) (r : List Int) (w : World) (hs : CB w A1 s) (hsc : s.length ≤ c1) (hl : CL w A2 l) (hll : l.length ≤ 5864062014805) (h : chainI a0 a1 a2 a3 a4 a5 ix l s 0 = some r) :
    Calls Tryd.prog 95 #[toyV a0 a1 a2 a3 a4 a5, .slice A1 s.length c1, .slice A2 l.length c2, .int .u64 ix] w fun e w' => ∃ A c, e = .returned (.slice A r.length c) ∧ r.length ≤ c ∧ CB w' A r ∧ Below w.heap.size w w' := by
  have HS := aq hs
  have HL := aq hl
  have HH := aq h
  clear hs hl h
  have hm := meth_hc a0 a1 a2 a3 a4 a5
  go_enter Tryd.func95, Tryd.ntmps95
  go_wp2
  (try simp only [Act.put, List.setIfInBounds_toArray, List.set_cons_zero, List.set_cons_succ])
  go_loopg [1, 13] l.length (fun kq v1 v13 wr => ∃ (j : Nat) (s' : List Int) (A' : Option Addr) (c' : Nat), j + kq = l.length ∧ v13 = .int .i64 (j : Nat) ∧ v1 = .slice A' s'.length c' ∧ Aside0 (s'.length ≤ c') ∧ Aside0 (CB wr A' s') ∧ Aside0 (CL wr A2 l) ∧ Aside0 (chainI a0 a1 a2 a3 a4 a5 ix (l.drop j) s' j = some r) ∧ Aside0 (Below w.heap.size w wr))
  case atStart => exact ⟨0, s, A1, c1, by omega, rfl, rfl, ⟨hsc⟩, HS, HL, HH, ⟨Below.refl _ _⟩⟩
  case round =>
    clear HS HL HH
    obtain ⟨j, s', A', c', hj, rfl, rfl, HSC, HS, HL, HH, HB⟩ := hrel
    by_cases hlt : j < l.length
    · obtain ⟨ad, Ah, ch, ead, hx, hlh, hCh⟩ := at_L HL.out j hlt
      cases ead
      have hd : l.drop j = l.getD j [] :: l.drop (j + 1) := by
        rw [List.drop_eq_getElem_cons hlt, List.getD_eq_getElem?_getD, List.getElem?_eq_getElem hlt]; rfl
      have hh := HH.out
      rw [hd] at hh
      generalize l.getD j [] = hsh at hh hx hlh hCh
      have HCh := aq hCh
      have HLh := aq hlh
      simp only [chainI] at hh
      obtain ⟨s2, hs2, hh2⟩ := Option.bind_eq_some_iff.mp hh
      have HH2 := aq hh2
      clear hd hh hh2
      by_cases hbit : Go.bits .and .u64 (ix / 2 ^ min j 64) 1 = 0
      · rw [if_pos hbit] at hs2
        have HS2 := aq hs2
        clear hs2
        have hb2 : (Go.bits .and .u64 (ix / 2 ^ min j 64) 1 == 0) = true := by rw [hbit]; rfl
        clear hbit
        go_wp2_with (go_at_call 53; (with_reducible refine (impl_toy_HashChildren.calls a0 a1 a2 a3 a4 a5 _ _ s' _ _ hsh s2 _ HS.out HSC.out HCh.out HLh.out HS2.out).mono ?_); rintro e w3 ⟨v3, rfl, hR3, hb3⟩; obtain ⟨A3, c3, rfl, hl3, hC3⟩ := Kd.R_reads hR3; have HC3 := aq hC3; have HL3 := aq hl3; have HB3 := aq hb3; clear hR3 hC3 hl3 hb3)
        go_roundg (l.length - (j + 1))
        case measure => omega
        case rel => exact ⟨j + 1, s2, _, _, by omega, by go_num, rfl, HL3, HC3, ⟨Kd.C_below HL.out HB3.out⟩, HH2, ⟨below_then HB.out HB.out.size HB3.out⟩⟩
      · rw [if_neg hbit] at hs2
        have HS2 := aq hs2
        clear hs2
        have hb2 : (Go.bits .and .u64 (ix / 2 ^ min j 64) 1 == 0) = false := by simpa using hbit
        clear hbit
        go_wp2_with (go_at_call 53; (with_reducible refine (impl_toy_HashChildren.calls a0 a1 a2 a3 a4 a5 _ _ hsh _ _ s' s2 _ HCh.out HLh.out HS.out HSC.out HS2.out).mono ?_); rintro e w3 ⟨v3, rfl, hR3, hb3⟩; obtain ⟨A3, c3, rfl, hl3, hC3⟩ := Kd.R_reads hR3; have HC3 := aq hC3; have HL3 := aq hl3; have HB3 := aq hb3; clear hR3 hC3 hl3 hb3)
        go_roundg (l.length - (j + 1))
        case measure => omega
        case rel => exact ⟨j + 1, s2, _, _, by omega, by go_num, rfl, HL3, HC3, ⟨Kd.C_below HL.out HB3.out⟩, HH2, ⟨below_then HB.out HB.out.size HB3.out⟩⟩
    · obtain rfl : j = l.length := by omega
      have hh := HH.out
      rw [List.drop_length] at hh
      obtain rfl := Option.some.inj hh
      clear hh
      go_wp2
      go_ret
      exact ⟨_, _, rfl, HSC.out, HS.out, HB.out⟩
def chainB (a0 a1 a2 a3 a4 a5 : Int) : List (List Int) → List Int → Option (List Int)
  | [], s => some s
  | h :: t, s => (impl_toy_HashChildren.f a0 a1 a2 a3 a4 a5 h s).bind fun s' => chainB a0 a1 a2 a3 a4 a5 t s'
set_option maxHeartbeats 1000000 in
set_option maxRecDepth 100000 in
theorem chainBorder_calls (a0 a1 a2 a3 a4 a5 : Int) (A1 : Option Addr) (c1 : Nat) (s : List Int) (A2 : Option Addr) (c2 : Nat) (l : List (List Int)) (r : List Int) (w : World) (hs : CB w A1 s) (hsc : s.length ≤ c1) (hl : CL w A2 l) (hll : l.length ≤ 5864062014805) (h : chainB a0 a1 a2 a3 a4 a5 l s = some r) :
    Calls Tryd.prog 91 #[toyV a0 a1 a2 a3 a4 a5, .slice A1 s.length c1, .slice A2 l.length c2] w fun e w' => ∃ A c, e = .returned (.slice A r.length c) ∧ r.length ≤ c ∧ CB w' A r ∧ Below w.heap.size w w' := by
  have HS := aq hs
  have HL := aq hl
  have HH := aq h
  clear hs hl h
  have hm := meth_hc a0 a1 a2 a3 a4 a5
  go_enter Tryd.func91, Tryd.ntmps91
  go_wp2
  (try simp only [Act.put, List.setIfInBounds_toArray, List.set_cons_zero, List.set_cons_succ])
  go_loopg [1, 11] l.length (fun kq v1 v13 wr => ∃ (j : Nat) (s' : List Int) (A' : Option Addr) (c' : Nat), j + kq = l.length ∧ v13 = .int .i64 (j : Nat) ∧ v1 = .slice A' s'.length c' ∧ Aside0 (s'.length ≤ c') ∧ Aside0 (CB wr A' s') ∧ Aside0 (CL wr A2 l) ∧ Aside0 (chainB a0 a1 a2 a3 a4 a5 (l.drop j) s' = some r) ∧ Aside0 (Below w.heap.size w wr))
  case atStart => exact ⟨0, s, A1, c1, by omega, rfl, rfl, ⟨hsc⟩, HS, HL, HH, ⟨Below.refl _ _⟩⟩
  case round =>
    clear HS HL HH
    obtain ⟨j, s', A', c', hj, rfl, rfl, HSC, HS, HL, HH, HB⟩ := hrel
    by_cases hlt : j < l.length
    · obtain ⟨ad, Ah, ch, ead, hx, hlh, hCh⟩ := at_L HL.out j hlt
      cases ead
      have hd : l.drop j = l.getD j [] :: l.drop (j + 1) := by
        rw [List.drop_eq_getElem_cons hlt, List.getD_eq_getElem?_getD, List.getElem?_eq_getElem hlt]; rfl
      have hh := HH.out
      rw [hd] at hh
      generalize l.getD j [] = hsh at hh hx hlh hCh
      have HCh := aq hCh
      have HLh := aq hlh
      simp only [chainB] at hh
      obtain ⟨s2, hs2, hh2⟩ := Option.bind_eq_some_iff.mp hh
      have HH2 := aq hh2
      have HS2 := aq hs2
      clear hd hh hh2 hs2
      go_wp2_with (go_at_call 53; (with_reducible refine (impl_toy_HashChildren.calls a0 a1 a2 a3 a4 a5 _ _ hsh _ _ s' s2 _ HCh.out HLh.out HS.out HSC.out HS2.out).mono ?_); rintro e w3 ⟨v3, rfl, hR3, hb3⟩; obtain ⟨A3, c3, rfl, hl3, hC3⟩ := Kd.R_reads hR3; have HC3 := aq hC3; have HL3 := aq hl3; have HB3 := aq hb3; clear hR3 hC3 hl3 hb3)
      go_roundg (l.length - (j + 1))
      case measure => omega
      case rel => exact ⟨j + 1, s2, _, _, by omega, by go_num, rfl, HL3, HC3, ⟨Kd.C_below HL.out HB3.out⟩, HH2, ⟨below_then HB.out HB.out.size HB3.out⟩⟩
    · obtain rfl : j = l.length := by omega
      have hh := HH.out
      rw [List.drop_length] at hh
      obtain rfl := Option.some.inj hh
      clear hh
      go_wp2
      go_ret
      exact ⟨_, _, rfl, HSC.out, HS.out, HB.out⟩
abbrev sameB (l m : List Int) : Bool := (strOfNums l).toList == (strOfNums m).toList
set_option maxHeartbeats 1000000 in
set_option maxRecDepth 100000 in
theorem errors_New.err (s : ByteArray) (w : World) : Calls Tryd.prog 87 #[.string s] w fun e w' => ∃ x, e = .returned (.iface 175 (.pointer (some x))) ∧ Below w.heap.size w w' := by
  go_enter Tryd.func87, Tryd.ntmps87
  go_wp2
  go_ret
  exact ⟨_, rfl, by repeat (first | (with_reducible first | exact Below.refl _ _ | apply below_alloc | apply pw_below_drewN | apply below_drew1) | exact Below.refl _ _)⟩
set_option maxHeartbeats 1000000 in
set_option maxRecDepth 100000 in
theorem match_yes (A1 : Option Addr) (c1 : Nat) (l1 : List Int) (A2 : Option Addr) (c2 : Nat) (l2 : List Int) (w : World) (h1 : CB w A1 l1) (hc1 : l1.length ≤ c1) (h2 : CB w A2 l2) (hc2 : l2.length ≤ c2) (heq : sameB l1 l2 = true) :
    Calls Tryd.prog 92 #[.slice A1 l1.length c1, .slice A2 l2.length c2] w fun e w' => e = .returned .nilIface ∧ Below w.heap.size w w' := by
  have HE := aq (show bytes_Equal.f l1 l2 = some true from congrArg some heq)
  have H1 := aq h1
  have H2 := aq h2
  clear h1 h2 heq
  go_enter Tryd.func92, Tryd.ntmps92
  go_wp2_with (go_at_call 102; (with_reducible refine (bytes_Equal.calls _ _ l1 _ _ l2 true _ H1.out hc1 H2.out hc2 HE.out).mono ?_); rintro e w3 ⟨rfl, hd⟩; have HD := aq hd.below; clear hd)
  go_ret
  exact ⟨rfl, HD.out⟩
set_option maxHeartbeats 1000000 in
set_option maxRecDepth 100000 in
theorem match_no (A1 : Option Addr) (c1 : Nat) (l1 : List Int) (A2 : Option Addr) (c2 : Nat) (l2 : List Int) (w : World) (h1 : CB w A1 l1) (hc1 : l1.length ≤ c1) (h2 : CB w A2 l2) (hc2 : l2.length ≤ c2) (heq : sameB l1 l2 = false) :
    Calls Tryd.prog 92 #[.slice A1 l1.length c1, .slice A2 l2.length c2] w fun e w' => e = .returned (.iface 156 (.agg #[.slice A2 l2.length c2, .slice A1 l1.length c1])) ∧ Below w.heap.size w w' := by
  have HE := aq (show bytes_Equal.f l1 l2 = some false from congrArg some heq)
  have H1 := aq h1
  have H2 := aq h2
  clear h1 h2 heq
  go_enter Tryd.func92, Tryd.ntmps92
  go_wp2_with (go_at_call 102; (with_reducible refine (bytes_Equal.calls _ _ l1 _ _ l2 false _ H1.out hc1 H2.out hc2 HE.out).mono ?_); rintro e w3 ⟨rfl, hd⟩; have HD := aq hd.below; clear hd)
  go_ret
  exact ⟨rfl, HD.out⟩
set_option maxHeartbeats 1000000 in
set_option maxRecDepth 100000 in
theorem verdict_nil (w : World) : Calls Tryd.prog 59 #[.nilIface] w fun e w' => e = .returned (.tuple #[.int .i64 0, .slice none 0 0]) ∧ Below w.heap.size w w' := by
  go_enter Tryd.func59, Tryd.ntmps59
  go_wp2
  go_ret2
  exact ⟨rfl, Below.refl _ _⟩
theorem ta_no (x : Addr) (W : World) : (Instr.typeAssert (.iface 175 (.pointer (some x))) 103 156 true).run Tryd.prog W = .ok (.tuple #[.agg #[.slice none 0 0, .slice none 0 0], .bool false]) W := by kernel_rfl
theorem ta_yes (v : Value) (W : World) : (Instr.typeAssert (.iface 156 v) 103 156 true).run Tryd.prog W = .ok (.tuple #[v, .bool true]) W := by kernel_rfl
set_option maxHeartbeats 1000000 in
set_option maxRecDepth 100000 in
theorem verdict_err (x : Addr) (w : World) : Calls Tryd.prog 59 #[.iface 175 (.pointer (some x))] w fun e w' => e = .returned (.tuple #[.int .i64 2, .slice none 0 0]) ∧ Below w.heap.size w w' := by
  have hta := ta_no x
  go_enter Tryd.func59, Tryd.ntmps59
  go_wp2
  go_ret2
  exact ⟨rfl, by repeat (first | (with_reducible first | exact Below.refl _ _ | apply below_alloc | refine Below.setCell ?_ (by simp) _) | exact Below.refl _ _)⟩
set_option maxHeartbeats 1000000 in
set_option maxRecDepth 100000 in
theorem verdict_other (A1 : Option Addr) (c1 n1 : Nat) (A2 : Option Addr) (c2 : Nat) (l2 : List Int) (w : World) (h2 : CB w A2 l2) (hl : l2.length ≤ 140737488351232) :
    Calls Tryd.prog 59 #[.iface 156 (.agg #[.slice A1 n1 c1, .slice A2 l2.length c2])] w fun e w' => ∃ v, e = .returned (.tuple #[.int .i64 1, v]) ∧ Kd.R (Kd.int .u8) 5 w' w.heap.size (fun _ => True) v l2 ∧ Below w.heap.size w w' := by
  have H2 := aq h2
  clear h2
  have hta := ta_yes (.agg #[.slice A1 n1 c1, .slice A2 l2.length c2])
  go_enter Tryd.func59, Tryd.ntmps59
  go_wp2_with (first
    | ((with_reducible refine gate_dst (N := 14) rfl ?_); refine Kd.R_lit (Kd.int .u8) _ 5 ?hg (N := 14) ?hd (xs := ([] : List Int)) (inner := []) (ok := fun _ => True) (okp := fun _ => True) ?hr ?hp (fun _ hk => hk) trivial (Below.refl _ _) (Nat.le_refl _) (by simp) ?_; (case hd => rfl); (case hg => rfl); (case hr => first | (go_simp; done) | (go_simp; rfl)); (case hp => exact (Reps.none _ _)); intro v3 w3 ho3 hb3 hg_ hnew_; clear hg_ hnew_; have HO := aq (Kd.R_lower (base' := w.heap.size) ho3 (below_size (below_alloc (Below.refl _ _) _))); have BK : Aside0 (w3.heap[w.heap.size]? = some (.cells #[.slice A1 n1 c1, .slice A2 l2.length c2] 156 (0, 0))) := ⟨blk_below (heap_alloc_new w _) hb3⟩; have HB := aq (below_step (below_alloc (Below.refl w.heap.size w) _) hb3); clear ho3 hb3; have hc1 : w3.cell? ⟨w.heap.size, 1, none⟩ = some (.slice A2 l2.length c2) := bc BK 1; have hf1 : w3.frozen? ⟨w.heap.size, 1, none⟩ = false := bz BK 1)
    | ((with_reducible refine gate_builtin (b := .append) (xs := #[.tmp 14, .tmp 16]) rfl ?_); at_builtin; refine Kd.R_append_rows (Kd.int .u8) (w0 := w) w.heap.size rfl (.tmp 14) (.tmp 16) 28 5 (.int .u8 0) 1 rfl Tryd.underlying28 infoB rfl (by decide) (by omega) v3 [] l2 _ _ _ (fun _ => True) (fun _ => False) rfl rfl HO.out (Kd.C_below H2.out HB.out) (fun _ _ h => h) (fun _ h => h.elim) (fun _ _ => trivial) HB.out (below_size HB.out) (by simp; omega) ?_; intro v4 w4 ho hb hg hat; have HO4 := aq ho; have HB4 := aq hb; clear ho hb hg hat))
  go_ret2
  exact ⟨_, rfl, HO4.out, HB4.out⟩
set_option maxHeartbeats 1000000 in
set_option maxRecDepth 100000 in
theorem root_ok (a0 a1 a2 a3 a4 a5 ix sz : Int) (A1 : Option Addr) (c1 : Nat) (s : List Int) (A2 : Option Addr) (c2 : Nat) (l : List (List Int)) (inner border : Nat) (r1 r : List Int) (w : World) (hs : CB w A1 s) (hsc : s.length ≤ c1) (hl : CL w A2 l) (hlc : l.length ≤ c2) (hll : l.length ≤ 5864062014805) (hlt : ix < sz) (hsz : (s.length : Int) = a1) (hd : proof_decompInclProof.f ix sz = some ((inner : Int), (border : Int))) (hn : l.length = inner + border) (h1 : chainI a0 a1 a2 a3 a4 a5 ix (l.take inner) s 0 = some r1) (h2 : chainB a0 a1 a2 a3 a4 a5 (l.drop inner) r1 = some r) :
    Calls Tryd.prog 107 #[toyV a0 a1 a2 a3 a4 a5, .int .u64 ix, .int .u64 sz, .slice A1 s.length c1, .slice A2 l.length c2] w fun e w' => ∃ A c, e = .returned (.tuple #[.slice A r.length c, .nilIface]) ∧ r.length ≤ c ∧ CB w' A r ∧ Below w.heap.size w w' := by
  have HS := aq hs
  have HL := aq hl
  have HD := aq hd
  have H1 := aq h1
  have H2 := aq h2
  clear hs hl h1 h2 hd
  have hm := meth_size a0 a1 a2 a3 a4 a5
  have t1 : decide (sz ≤ ix) = false := decide_eq_false (by omega)
  obtain ⟨iL, hiL, hsL⟩ := Option.map_eq_some_iff.1 infoL
  simp only [Prod.mk.injEq] at hsL
  have hcut1 : ∀ W : World, (Instr.slice 25 (.slice A2 l.length c2) none (some (.int .i64 (inner : Int))) none).run Tryd.prog W = .ok (.slice A2 (l.take inner).length c2) W := fun W => by
    have h := cut_to (P := Tryd.prog) 25 28 .i64 Tryd.underlying25 hiL A2 l.length c2 (inner : Int) (by omega) (by omega) hlc W
    rw [Int.toNat_natCast] at h
    rw [show (l.take inner).length = inner by rw [List.length_take]; omega]
    exact h
  have hcut2 : ∀ W : World, (Instr.slice 25 (.slice A2 l.length c2) (some (.int .i64 (inner : Int))) none none).run Tryd.prog W = .ok (.slice (if c2 = inner then A2 else A2.map (·.add (inner * 1))) (l.drop inner).length (c2 - inner)) W := fun W => by
    have h := cut_from (P := Tryd.prog) 25 28 .i64 Tryd.underlying25 hiL 1 hsL.2.1 A2 l.length c2 (inner : Int) (by omega) (by omega) W
    rw [Int.toNat_natCast] at h
    rw [List.length_drop]
    exact h
  clear hiL
  have HT := aq (Kd.C_take (m := inner) HL.out (by omega))
  have HR : Aside0 (CL w (if c2 = inner then A2 else A2.map (·.add (inner * 1))) (l.drop inner)) := ⟨Kd.C_drop (m := inner) (c := c2) HL.out (by omega) hlc⟩
  generalize (if c2 = inner then A2 else A2.map (·.add (inner * 1))) = Ax at hcut2 HR
  have HTL : Aside0 ((l.take inner).length = inner) := ⟨by rw [List.length_take]; omega⟩
  have HN := aq hn
  have HSZ := aq hsz
  have HLT := aq hlt
  have HC := aq hlc
  have HSC := aq hsc
  have HLL := aq hll
  clear hn hsz hlt hlc hsc hll hsL
  have HDL : Aside0 ((l.drop inner).length + inner = l.length) := ⟨by rw [List.length_drop]; have := HN.out; omega⟩
  generalize l.take inner = lt at hcut1 HT H1 HTL
  generalize l.drop inner = ld at hcut2 HR H2 HDL
  go_enter Tryd.func107, Tryd.ntmps107
  go_wp2_with (first
    | (go_at_call 138; (with_reducible refine (impl_toy_Size.calls a0 a1 a2 a3 a4 a5 a1 _ rfl).mono ?_); rintro e w1 ⟨rfl, hb⟩; have HB := aq hb; clear hb; have HS1 := aq (Kd.C_below HS.out HB.out); have HT1 := aq (Kd.C_below HT.out HB.out); have HR1 := aq (Kd.C_below HR.out HB.out); have t2 : ((s.length : Int) != a1) = false := by rw [HSZ.out]; simp)
    | (go_at_call 93; (with_reducible refine (proof_decompInclProof.calls _ _ _ _ _ HD.out).mono ?_); rintro e w2 ⟨rfl, hb⟩; have HB2 := aq (below_then HB.out HB.out.size hb.below); have HS2 := aq (Kd.C_below HS.out HB2.out); have HT2 := aq (Kd.C_below HT.out HB2.out); have HR2 := aq (Kd.C_below HR.out HB2.out); clear hb HB HS1 HT1 HR1; have t3 : ((l.length : Int) != wrap64 ((inner : Int) + (border : Int))) = false := by rw [w64_in _ (by have := HN.out; have := HLL.out; omega), HN.out]; simp)
    | (go_at_call 95; (with_reducible refine (chainInner_calls a0 a1 a2 a3 a4 a5 ix _ _ s _ c2 lt r1 _ HS2.out HSC.out HT2.out (by have := HN.out; have := HLL.out; have := HTL.out; omega) H1.out).mono ?_); rintro e w3 ⟨A3, c3, rfl, hl3, hC3, hb⟩; have HB3 := aq (below_then HB2.out HB2.out.size hb); have HR3 := aq (Kd.C_below HR.out HB3.out); have HC3 := aq hC3; have HL3 := aq hl3; clear hC3 hb hl3)
    | (go_at_call 91; (with_reducible refine (chainBorder_calls a0 a1 a2 a3 a4 a5 _ _ r1 _ _ ld r _ HC3.out HL3.out HR3.out (by have := HN.out; have := HLL.out; have := HDL.out; omega) H2.out).mono ?_); rintro e w4 ⟨A4, c4, rfl, hl4, hC4, hb⟩; have HB4 := aq (below_then HB3.out HB3.out.size hb); have HC4 := aq hC4; have HL4 := aq hl4; clear hC4 hb hl4))
  go_ret2
  exact ⟨_, _, rfl, HL4.out, HC4.out, HB4.out⟩
set_option maxHeartbeats 1000000 in
set_option maxRecDepth 100000 in
theorem root_err1 (a0 a1 a2 a3 a4 a5 ix sz : Int) (A1 : Option Addr) (c1 n1 : Nat) (A2 : Option Addr) (c2 n2 : Nat) (hlt : sz ≤ ix) (w : World) :
    Calls Tryd.prog 107 #[toyV a0 a1 a2 a3 a4 a5, .int .u64 ix, .int .u64 sz, .slice A1 n1 c1, .slice A2 n2 c2] w fun e w' => ∃ x, e = .returned (.tuple #[.slice none 0 0, .iface 175 (.pointer (some x))]) ∧ Below w.heap.size w w' := by
  have t1 : decide (sz ≤ ix) = true := decide_eq_true hlt
  go_enter Tryd.func107, Tryd.ntmps107
  go_wp2_with (first
    | (go_at_call 87; (with_reducible refine (errors_New.err _ _).mono ?_); rintro e w3 ⟨x, rfl, hb⟩; have HB3 := aq (hb); clear hb))
  go_ret2
  exact ⟨_, rfl, HB3.out⟩
set_option maxHeartbeats 1000000 in
set_option maxRecDepth 100000 in
theorem root_err2 (a0 a1 a2 a3 a4 a5 ix sz : Int) (A1 : Option Addr) (c1 n1 : Nat) (A2 : Option Addr) (c2 n2 : Nat) (hlt : ix < sz) (hsz : (n1 : Int) ≠ a1) (w : World) :
    Calls Tryd.prog 107 #[toyV a0 a1 a2 a3 a4 a5, .int .u64 ix, .int .u64 sz, .slice A1 n1 c1, .slice A2 n2 c2] w fun e w' => ∃ x, e = .returned (.tuple #[.slice none 0 0, .iface 175 (.pointer (some x))]) ∧ Below w.heap.size w w' := by
  have hm := meth_size a0 a1 a2 a3 a4 a5
  have t1 : decide (sz ≤ ix) = false := decide_eq_false (by omega)
  have t2 : ((n1 : Int) != a1) = true := by simpa using hsz
  clear hsz
  go_enter Tryd.func107, Tryd.ntmps107
  go_wp2_with (first
    | (go_at_call 138; (with_reducible refine (impl_toy_Size.calls a0 a1 a2 a3 a4 a5 a1 _ rfl).mono ?_); rintro e w1 ⟨rfl, hb⟩; have HB := aq hb; clear hb)
    | (go_at_call 87; (with_reducible refine (errors_New.err _ _).mono ?_); rintro e w3 ⟨x, rfl, hb⟩; have HB3 := aq (below_then HB.out HB.out.size hb); clear hb))
  go_ret2
  exact ⟨_, rfl, HB3.out⟩
set_option maxHeartbeats 1000000 in
set_option maxRecDepth 100000 in
theorem root_err3 (a0 a1 a2 a3 a4 a5 ix sz : Int) (A1 : Option Addr) (c1 n1 : Nat) (A2 : Option Addr) (c2 n2 : Nat) (inner border : Nat) (hlt : ix < sz) (hsz : (n1 : Int) = a1) (hd : proof_decompInclProof.f ix sz = some ((inner : Int), (border : Int))) (hin : inner ≤ 64 ∧ border ≤ 64) (hn : n2 ≠ inner + border) (w : World) :
    Calls Tryd.prog 107 #[toyV a0 a1 a2 a3 a4 a5, .int .u64 ix, .int .u64 sz, .slice A1 n1 c1, .slice A2 n2 c2] w fun e w' => ∃ x, e = .returned (.tuple #[.slice none 0 0, .iface 175 (.pointer (some x))]) ∧ Below w.heap.size w w' := by
  have HD := aq hd
  clear hd
  have hm := meth_size a0 a1 a2 a3 a4 a5
  have t1 : decide (sz ≤ ix) = false := decide_eq_false (by omega)
  have t2 : ((n1 : Int) != a1) = false := by simpa using hsz
  have t3 : ((n2 : Int) != (inner : Int) + (border : Int)) = true := by simpa using (show ¬ (n2 : Int) = inner + border by omega)
  clear hsz hn
  go_enter Tryd.func107, Tryd.ntmps107
  go_wp2_with (first
    | (go_at_call 138; (with_reducible refine (impl_toy_Size.calls a0 a1 a2 a3 a4 a5 a1 _ rfl).mono ?_); rintro e w1 ⟨rfl, hb⟩; have HB := aq hb; clear hb)
    | (go_at_call 93; (with_reducible refine (proof_decompInclProof.calls _ _ _ _ _ HD.out).mono ?_); rintro e w2 ⟨rfl, hb⟩; replace HB := aq (below_then HB.out HB.out.size hb.below); clear hb)
    | (go_at_call 87; (with_reducible refine (errors_New.err _ _).mono ?_); rintro e w3 ⟨x, rfl, hb⟩; have HB3 := aq (below_then HB.out HB.out.size hb); clear hb))
  go_ret2
  exact ⟨_, rfl, HB3.out⟩
set_option maxHeartbeats 1000000 in
set_option maxRecDepth 100000 in
theorem vi_err (a0 a1 a2 a3 a4 a5 ix sz : Int) (A1 : Option Addr) (c1 n1 : Nat) (A2 : Option Addr) (c2 n2 : Nat) (A3 : Option Addr) (c3 n3 : Nat) (w : World)
    (hc : Calls Tryd.prog 107 #[toyV a0 a1 a2 a3 a4 a5, .int .u64 ix, .int .u64 sz, .slice A1 n1 c1, .slice A2 n2 c2] w fun e w' => ∃ x, e = .returned (.tuple #[.slice none 0 0, .iface 175 (.pointer (some x))]) ∧ Below w.heap.size w w') :
    Calls Tryd.prog 78 #[toyV a0 a1 a2 a3 a4 a5, .int .u64 ix, .int .u64 sz, .slice A1 n1 c1, .slice A2 n2 c2, .slice A3 n3 c3] w fun e w' => ∃ x, e = .returned (.iface 175 (.pointer (some x))) ∧ Below w.heap.size w w' := by
  have HC := aq hc
  clear hc
  go_enter Tryd.func78, Tryd.ntmps78
  go_wp2_with (first
    | (go_at_call 107; (with_reducible refine HC.out.mono ?_); rintro e w3 ⟨x, rfl, hb⟩; have HB3 := aq hb; clear hb))
  go_ret
  exact ⟨_, rfl, HB3.out⟩
set_option maxHeartbeats 1000000 in
set_option maxRecDepth 100000 in
theorem vi_yes (a0 a1 a2 a3 a4 a5 ix sz : Int) (A1 : Option Addr) (c1 n1 : Nat) (A2 : Option Addr) (c2 n2 : Nat) (A3 : Option Addr) (c3 : Nat) (l3 r : List Int) (w : World) (h3 : CB w A3 l3) (hc3 : l3.length ≤ c3) (heq : sameB r l3 = true)
    (hc : Calls Tryd.prog 107 #[toyV a0 a1 a2 a3 a4 a5, .int .u64 ix, .int .u64 sz, .slice A1 n1 c1, .slice A2 n2 c2] w fun e w' => ∃ A c, e = .returned (.tuple #[.slice A r.length c, .nilIface]) ∧ r.length ≤ c ∧ CB w' A r ∧ Below w.heap.size w w') :
    Calls Tryd.prog 78 #[toyV a0 a1 a2 a3 a4 a5, .int .u64 ix, .int .u64 sz, .slice A1 n1 c1, .slice A2 n2 c2, .slice A3 l3.length c3] w fun e w' => e = .returned .nilIface ∧ Below w.heap.size w w' := by
  have HC := aq hc
  have H3 := aq h3
  clear hc h3
  go_enter Tryd.func78, Tryd.ntmps78
  go_wp2_with (first
    | (go_at_call 107; (with_reducible refine HC.out.mono ?_); rintro e w3 ⟨A4, c4, rfl, hl4, hC4, hb⟩; have HB3 := aq hb; have HC4 := aq hC4; have HL4 := aq hl4; clear hb hC4 hl4)
    | (go_at_call 92; (with_reducible refine (match_yes _ _ r _ _ l3 _ HC4.out HL4.out (Kd.C_below H3.out HB3.out) hc3 heq).mono ?_); rintro e w4 ⟨rfl, hb⟩; have HB4 := aq (below_then HB3.out HB3.out.size hb); clear hb))
  go_ret
  exact ⟨rfl, HB4.out⟩
set_option maxHeartbeats 1000000 in
set_option maxRecDepth 100000 in
theorem vi_no (a0 a1 a2 a3 a4 a5 ix sz : Int) (A1 : Option Addr) (c1 n1 : Nat) (A2 : Option Addr) (c2 n2 : Nat) (A3 : Option Addr) (c3 : Nat) (l3 r : List Int) (w : World) (h3 : CB w A3 l3) (hc3 : l3.length ≤ c3) (heq : sameB r l3 = false)
    (hc : Calls Tryd.prog 107 #[toyV a0 a1 a2 a3 a4 a5, .int .u64 ix, .int .u64 sz, .slice A1 n1 c1, .slice A2 n2 c2] w fun e w' => ∃ A c, e = .returned (.tuple #[.slice A r.length c, .nilIface]) ∧ r.length ≤ c ∧ CB w' A r ∧ Below w.heap.size w w') :
    Calls Tryd.prog 78 #[toyV a0 a1 a2 a3 a4 a5, .int .u64 ix, .int .u64 sz, .slice A1 n1 c1, .slice A2 n2 c2, .slice A3 l3.length c3] w fun e w' => ∃ A c, e = .returned (.iface 156 (.agg #[.slice A3 l3.length c3, .slice A r.length c])) ∧ r.length ≤ c ∧ CB w' A r ∧ Below w.heap.size w w' := by
  have HC := aq hc
  have H3 := aq h3
  clear hc h3
  go_enter Tryd.func78, Tryd.ntmps78
  go_wp2_with (first
    | (go_at_call 107; (with_reducible refine HC.out.mono ?_); rintro e w3 ⟨A4, c4, rfl, hl4, hC4, hb⟩; have HB3 := aq hb; have HC4 := aq hC4; have HL4 := aq hl4; clear hb hC4 hl4)
    | (go_at_call 92; (with_reducible refine (match_no _ _ r _ _ l3 _ HC4.out HL4.out (Kd.C_below H3.out HB3.out) hc3 heq).mono ?_); rintro e w4 ⟨rfl, hb⟩; have HB4 := aq (below_then HB3.out HB3.out.size hb); have HC5 := aq (Kd.C_below HC4.out hb); clear hb))
  go_ret
  exact ⟨_, _, rfl, HL4.out, HC5.out, HB4.out⟩
end Go.Proofs.YtfhcpniibiobgaaDoor.Qe
namespace Go.Proofs.YtfhcpniibiobgaaDoor.Qe
open Go.Proofs.YtfhcpniibiobgaaDoor.Qf
open Go.RowKit Go.Proofs.YtfhcpniibiobgaaDoorW.PrintWords Go.Proofs.YtfhcpniibiobgaaDoorW.PrintLast Go.Proofs.YtfhcpniibiobgaaDoorW.PrintMore
open Hs (CB CL at_L at_B infoB infoL R_of_blk)
theorem app_lit (W : World) (g : Nat) (A : Option Addr) (c : Nat) (ys : List Int) (hy : CB W A ys) (hl : ys.length ≤ 140737488351232) :
    ∃ A' c' w1, (Builtin.append_ #[28, 28] 28 #[.slice (some ⟨g, 0, none⟩) 0 0, .slice A ys.length c]).run Tryd.prog W = .ok (.slice A' ys.length c') w1 ∧ ys.length ≤ c' ∧ CB w1 A' ys ∧ Below W.heap.size W w1 := by
  obtain ⟨i0, hi, hz⟩ := Option.map_eq_some_iff.1 infoB
  simp only [Prod.mk.injEq] at hz
  obtain ⟨hz0, hz1, hz2⟩ := hz
  by_cases h0 : ys = []
  · subst h0
    refine ⟨some ⟨g, 0, none⟩, 0, W, ?_, Nat.le_refl _, ⟨rfl, by simp, fun h => by simp at h⟩, Below.refl _ _⟩
    rcases A with _ | ad
    · simp [Builtin.append_, run_underlying Tryd.underlying28, sizeOf, typeInfo, hi, Builtin.lenOf, Builtin.firstCells, storeCells]
    · have hr := run_append_room_cells (P := Tryd.prog) W 28 28 5 i0 Tryd.underlying28 hi g 0 0 0 ad 0 c [] (by simp) (by simp) (by simp) (Nat.le_refl _) (by simp) (by simp)
      exact hr
  · have hpos : 0 < ys.length := List.length_pos_iff.2 h0
    obtain ⟨ad, rfl, _⟩ := at_B hy 0 hpos
    have hnews : ∀ j u, (ys.map (Value.int .u8))[j]? = some u → W.cell? (ad.add j) = some u := by
      intro j u hj
      rw [List.getElem?_map] at hj
      obtain ⟨x, hx, rfl⟩ := Option.map_eq_some_iff.1 hj
      obtain ⟨hjl, hxe⟩ := List.getElem?_eq_some_iff.1 hx
      obtain ⟨ad', e, hc⟩ := at_B hy j hjl
      cases e
      rw [List.getD_eq_getElem?_getD, List.getElem?_eq_getElem hjl, Option.getD_some, hxe] at hc
      exact hc
    obtain ⟨v', w', hrun, hown, hg⟩ := run_append_arg_grows (P := Tryd.prog) W 28 28 5 i0 (.int .u8 0) 1 1 Tryd.underlying28 hi hz0 hz1 hz2 rfl (by omega) ⟨g, 0, none⟩ 0 0 [] rfl (fun j u h => by simp at h) ad ys.length c (ys.map (Value.int .u8)) (by simp) hnews (by omega) (by unfold maxLen; omega) (by omega)
    rw [List.nil_append, Nat.zero_add] at hown
    have hR : Kd.R (Kd.int .u8) 5 w' W.heap.size (fun _ => True) v' ys := ⟨fun _ _ => trivial, _, hown, by show _ = _ * 1; simp, fun j p hj => by
      show ((ys.map (Value.int .u8)).drop (j * 1)).take 1 = [Value.int .u8 p]
      obtain ⟨hjl, hp⟩ := List.getElem?_eq_some_iff.1 hj
      rw [Nat.mul_one, List.drop_eq_getElem_cons (by rw [List.length_map]; exact hjl), List.take_succ_cons, List.take_zero, List.getElem_map, hp]⟩
    obtain ⟨A', c', rfl, hlc, hC⟩ := Kd.R_reads hR
    exact ⟨A', c', w', hrun, hlc, hC, pw_below_grown (Below.refl _ _) none (Nat.le_refl _) hg (fun k h => by simp at h)⟩
theorem new_lit {Kc : Act → World → Prop} {a : Act} {N : Option Tmp} (W : World) (T : TypeId) (h : ∀ g W', Below W.heap.size W W' → Kc (a.put N (.slice (some ⟨g, 0, none⟩) 0 0)) W') : Kc (a.put N (.slice (some ⟨W.heap.size, 0, none⟩) 0 0)) (W.alloc (.cells #[] T)) :=
  h _ _ (below_alloc (Below.refl _ _) _)
theorem app_step {ops : Array Oper} {o : Oper} {a : Act} {Kc : Act → World → Prop} {Q : Exit → Act → World → Prop} {W : World} {A : Option Addr} {c : Nat} {ys : List Int} (g : Nat) (s x : Operand) (hgd : o.guard = none)
    (ho : o.op = .call { callee := .builtin .append, args := #[s, x], argTypes := #[28, 28] }) (hty : o.type = 28) (hs : a.eval s = .slice (some ⟨g, 0, none⟩) 0 0) (hx : a.eval x = .slice A ys.length c) (hy : CB W A ys) (hl : ys.length ≤ 140737488351232)
    (h : ∀ A' c' w1, ys.length ≤ c' → CB w1 A' ys → Below W.heap.size W w1 → Kc (a.put o.dst (.slice A' ys.length c')) w1) : if Region.wanted o (yielded ops a.tmps) = true then Oper.wp Tryd.prog o a W Kc Q else Kc (a.put o.dst undef) W := by
  obtain ⟨A', c', w1, hrun, h1, h2, h3⟩ := app_lit W g A c ys hy hl
  refine event_step (by simp [Region.wanted, hgd]) (v := .slice A' ys.length c') (w1 := w1) ?_ (h A' c' w1 h1 h2 h3)
  unfold execOp
  simp only [ho, hty, resolve, invoke, builtin, Sem.run_bind, Sem.run_pure, Result.andThen_ok, List.map_toArray, List.map_cons, List.map_nil, hs, hx, hrun]
def kV : Kd Unit where
  sz := 3
  E := []
  K := fun _ _ cs => cs.length = 3 ∧ ∀ u ∈ cs, u.oneCell' = true
  M := fun _ _ _ _ cs => cs.length = 3 ∧ ∀ u ∈ cs, u.oneCell' = true
  K_len := fun h => h.1
  K_one := fun h => h.2
  K_below := fun _ h => h
  K_of_M := fun h => h
  M_mono := fun _ h => h
  M_bound := fun h => h
  M_move := fun _ h => h
  M_lower := fun _ h => h
theorem kV_move {e base : Nat} {ok : Nat → Prop} {w w1 : World} {v : Value} {xs : List Unit} (h : kV.R e w base ok v xs) (hm : ∀ k, v.ownBlock = some k → w1.heap[k]? = w.heap[k]?) : kV.R e w1 base ok v xs := by
  obtain ⟨h0, inner, hown, hr⟩ := h
  exact ⟨h0, inner, own_move hown hm, hr⟩
theorem kV_lt {e base : Nat} {ok : Nat → Prop} {w : World} {v : Value} {xs : List Unit} (h : kV.R e w base ok v xs) : ∀ k, v.ownBlock = some k → base ≤ k ∧ k < w.heap.size := by
  obtain ⟨h0, inner, hown, hr⟩ := h
  intro k hk
  rcases hown.2 with h2 | ⟨g, cap, cur, rfl, hg, hh, _⟩
  · rw [h2.1] at hk
    simp [Value.ownBlock] at hk
  · have : g = k := by simpa [Value.ownBlock] using hk
    subst this
    refine ⟨hg, ?_⟩
    rcases Nat.lt_or_ge g w.heap.size with h | h
    · exact h
    · rw [Array.getElem?_eq_none h] at hh
      cases hh
theorem kV_below {e base : Nat} {ok : Nat → Prop} {w w1 : World} {v : Value} {xs : List Unit} (h : kV.R e w base ok v xs) (hb : Below w.heap.size w w1) : kV.R e w1 base ok v xs :=
  kV_move h fun k hk => hb.block k (kV_lt h k hk).2
theorem kV_slice {e base : Nat} {ok : Nat → Prop} {w : World} {v : Value} {xs : List Unit} (h : kV.R e w base ok v xs) : ∃ A n c, v = .slice A n c := by
  obtain ⟨h0, inner, hown, hr⟩ := h
  rcases hown.2 with h2 | ⟨g, cap, cur, rfl, hg, hh, _⟩
  · exact ⟨_, _, _, h2.1⟩
  · exact ⟨_, _, _, rfl⟩
section
variable {P : Program} {ops : Array Oper} {o : Oper} {a : Act} {Q : Exit → Act → World → Prop} {Kc : Act → World → Prop}
theorem store_step {W w1 : World} (hw : Region.wanted o (yielded ops a.tmps) = true) (hrun : (execOp a.eval o).run P W = .ok .skip w1) (h : Kc (a.put o.dst undef) w1) : if Region.wanted o (yielded ops a.tmps) = true then Oper.wp P o a W Kc Q else Kc (a.put o.dst undef) W := by
  rw [if_pos hw]
  unfold Oper.wp
  rw [hrun]
  exact h
end
theorem infoV : (Tryd.prog.info? 58).map (fun i => (i.zero, i.size, i.bytes)) = some (some (.agg #[.int .u64 0, .int .u64 0, .slice none 0 0]), 3, 40) := by kernel_rfl
set_option maxHeartbeats 4000000 in
set_option maxRecDepth 100000 in
theorem visit_calls (lv ix : Int) (A : Option Addr) (c : Nat) (l : List Int) (gs n : Nat) (v : Value) (w : World) (hl : CB w A l) (hll : l.length ≤ 140737488351232) (hg : w.heap[gs]? = some (.cells #[v] 37 (0, 0))) (hgs : gs < w.heap.size) (hr : kV.R 58 w (gs + 1) (fun _ => True) v (List.replicate n ())) (hn : n ≤ 1000) :
    Calls Tryd.prog 56 #[.agg #[.int .u64 lv, .int .u64 ix], .slice A l.length c, .pointer (some ⟨gs, 0, none⟩)] w fun e w' => ∃ v0 v', e = .returned v0 ∧ w'.heap[gs]? = some (.cells #[v'] 37 (0, 0)) ∧ kV.R 58 w' (gs + 1) (fun _ => True) v' (List.replicate (n + 1) ()) ∧ (∀ k, k < w.heap.size → k ≠ gs → some k ≠ v.ownBlock → w'.heap[k]? = w.heap[k]?) ∧ (v'.ownBlock = v.ownBlock ∨ ∃ b, v'.ownBlock = some b ∧ w.heap.size ≤ b) ∧ Below gs w w' := by
  have HL := aq hl
  have HV0 := aq hr
  have SK0 := aq hg
  clear hl hr hg
  go_enter Tryd.func56, Tryd.ntmps56
  try go_wp2_with (fail)
  have BK : Aside0 (((w.alloc (.cells #[.int .u64 lv, .int .u64 ix] 108)).drew).heap[w.heap.size]? = some (.cells #[.int .u64 lv, .int .u64 ix] 108 (0, 0))) := ⟨blk_drew (heap_alloc_new w _)⟩
  have HB := aq (below_drew1 (below_alloc (Below.refl w.heap.size w) (.cells #[.int .u64 lv, .int .u64 ix] 108)))
  have SK := aq (blk_below SK0.out HB.out)
  have HV := aq (kV_below HV0.out HB.out)
  refine start_ (n := 10) (S := fun w' => w'.cell? ⟨gs, 0, none⟩ = some v ∧ w'.cell? ⟨w.heap.size, 0, none⟩ = some (.int .u64 lv) ∧ w'.cell? ⟨w.heap.size, 1, none⟩ = some (.int .u64 ix)) (ds := [9]) #[false, false, false, false, false, false, false, false, false, false] (by kernel_rfl) rfl rfl ⟨bc SK 0, bc BK 0, bc BK 1⟩ (fun hHeld => ?_)
  generalize (w.alloc (.cells #[.int .u64 lv, .int .u64 ix] 108)).drew = wz at BK SK HB HV hHeld ⊢
  refine pu 4 9 ?_
  refine ta 0 5 hHeld ?_
  refine ta 1 6 hHeld ?_
  refine two_ (i := 2) (j := 3) (Ni := some 7) (Nj := some 8) #[true, true, true, false, true, false, false, false, false, false] #[true, true, false, true, true, false, false, false, false, false] rfl rfl rfl rfl (by kernel_rfl) (by decide) (by decide) (fun K hK => ?_) (fun K hK => ?_)
  · skip
    refine gS Tryd.func57 #[.agg #[.int .u64 lv, .int .u64 ix]] ?_
    refine (impl_fromNode.calls lv ix lv ix _ rfl).mono ?_
    rintro e W' ⟨rfl, hb⟩
    refine ⟨_, rfl, ?_⟩
    have nBK := aq (blk_below BK.out hb)
    have nSK := aq (blk_below SK.out hb)
    have nHB := aq (below_step HB.out hb)
    have nHV := aq (kV_below HV.out hb)
    clear BK SK HB HV  hb
    have BK := nBK
    have SK := nSK
    have HB := nHB
    have HV := nHV
    clear nBK nSK nHB nHV 
    refine hK.out _ _ ⟨bc SK 0, bc BK 0, bc BK 1⟩ (fun hHeld => ?_)
    clear hK K
    refine nm ?_
    refine on1 3 8 fun K hK => ?_
    refine event_step rfl (by first | (go_simp; done) | (go_simp; rfl) | (go_simp; exact ⟨rfl, rfl⟩)) ?_
    refine new_lit _ _ ?_
    intro g3 W' hb
    have nBK := aq (blk_below BK.out hb)
    have nSK := aq (blk_below SK.out hb)
    have nHB := aq (below_step HB.out hb)
    have nHV := aq (kV_below HV.out hb)
    clear BK SK HB HV  hb
    have BK := nBK
    have SK := nSK
    have HB := nHB
    have HV := nHV
    clear nBK nSK nHB nHV 
    refine hK.out _ _ ⟨bc SK 0, bc BK 0, bc BK 1⟩ (fun hHeld => ?_)
    clear hK K
    refine nm ?_
    refine on1 5 10 fun K hK => ?_
    refine app_step g3 (.tmp 8) (.tmp 9) rfl rfl rfl rfl rfl (Kd.C_below HL.out HB.out) hll ?_
    intro B d W' hd hC hb
    have nBK := aq (blk_below BK.out hb)
    have nSK := aq (blk_below SK.out hb)
    have nHB := aq (below_step HB.out hb)
    have nHV := aq (kV_below HV.out hb)
    clear BK SK HB HV  hb
    have BK := nBK
    have SK := nSK
    have HB := nHB
    have HV := nHV
    clear nBK nSK nHB nHV 
    clear hC
    refine hK.out _ _ ⟨bc SK 0, bc BK 0, bc BK 1⟩ (fun hHeld => ?_)
    clear hK K
    refine nm ?_
    refine pu 6 11 ?_
    refine on1 7 12 fun K hK => ?_
    refine event_step rfl (v := .slice (some ⟨_, 0, none⟩) 1 1) (w1 := World.alloc _ (.cells #[.int .u64 lv, .int .u64 ix, .slice B l.length d] 58)) (by first | (go_simp; done) | (go_simp; rfl) | (go_simp; exact ⟨rfl, rfl⟩)) ?_
    rename World => W2
    have hb := below_alloc (Below.refl W2.heap.size W2) (.cells #[.int .u64 lv, .int .u64 ix, .slice B l.length d] 58)
    refine hK.out _ _ ⟨(blk_cell (blk_below SK.out hb) 0).trans rfl, (blk_cell (blk_below BK.out hb) 0).trans rfl, (blk_cell (blk_below BK.out hb) 1).trans rfl⟩ (fun hHeld => ?_)
    clear hK K
    refine nm ?_
    refine on1 8 13 fun K hK => ?_
    refine Kd.R_append_step kV (w0 := w) (gs + 1) rfl (.tmp 5) (.tmp 12) 37 58 (.agg #[.int .u64 0, .int .u64 0, .slice none 0 0]) 40 rfl Tryd.underlying37 infoV rfl (by decide) (by omega) v (List.replicate n ()) () [.int .u64 lv, .int .u64 ix, .slice B l.length d] (fun _ => True) (fun _ => False) rfl rfl ⟨rfl, by simp [Value.oneCell']⟩ (fun _ h => h.elim) (fun _ _ => trivial) HV.out (Below.mono HB.out (by omega)) (Nat.le_trans (by omega) (below_size HB.out)) (by simp; omega) ?_
    intro v1 w1 hR1 hB1 hG1 hA1
    have hlt := below_size HB.out
    have SK1 := aq ((hG1.block gs (by omega) (fun h => by have := (kV_lt HV0.out gs h.symm).1; omega)).trans SK.out)
    have BK1 := aq ((hG1.block w.heap.size (lt_of_block BK.out) (fun h => by have := (kV_lt HV0.out w.heap.size h.symm).2; omega)).trans BK.out)
    have K1 : Aside0 (∀ k, k < w.heap.size → k ≠ gs → some k ≠ v.ownBlock → w1.heap[k]? = w.heap[k]?) := ⟨fun k hk _ hv => (hG1.block k (by omega) hv).trans (HB.out.block k hk)⟩
    have A1 : Aside0 (v1.ownBlock = v.ownBlock ∨ ∃ b, v1.ownBlock = some b ∧ w.heap.size ≤ b) := ⟨hA1.imp id fun ⟨b, h1, h2⟩ => ⟨b, h1, Nat.le_trans hlt h2⟩⟩
    have B1 := aq (Below.mono hB1 (Nat.le_succ gs))
    have R1 := aq hR1
    clear hG1 hA1 hB1 hR1 SK BK HB HV hHeld
    refine hK.out _ _ ⟨bc SK1 0, bc BK1 0, bc BK1 1⟩ (fun hHeld => ?_)
    clear hK K
    refine nm ?_
    obtain ⟨Av, nv, cv, rfl⟩ := kV_slice R1.out
    have hc := cell_of_one SK1.out
    have hf := free_of_one SK1.out
    refine last_ (i := 9) (N := none) #[true, true, true, true, true, true, true, true, true, true] rfl rfl (by kernel_rfl) (by simp) (fun K hK => ?_)
    refine store_step rfl (w1 := w1.setCell ⟨gs, 0, none⟩ (.slice Av nv cv)) (by first | (go_simp; done) | (go_simp; rfl) | (go_simp; exact ⟨rfl, rfl⟩)) ?_
    refine hK.out _ _ ?_
    clear hK K
    refine norm_ (a' := ?_) ?_ ?_
    rotate_left
    · show Act.put _ none _ = _
      first | rfl | (simp only [Act.put]; rfl) | simp only [Act.put]
    refine done_ (by kernel_rfl) ?_
    go_end0
    exact ⟨_, _, rfl, one_setCell SK1.out, (by rw [List.replicate_succ']; exact kV_move R1.out (fun k hk => Below.heap_setCell _ _ _ k (by have := (kV_lt R1.out k hk).1; simp; omega))), fun k h1 h2 h3 => (Below.heap_setCell _ _ _ k h2).trans (K1.out k h1 h2 h3), A1.out, Below.setCell B1.out (by simp) _⟩
  · skip
    refine event_step rfl (by first | (go_simp; done) | (go_simp; rfl) | (go_simp; exact ⟨rfl, rfl⟩)) ?_
    refine new_lit _ _ ?_
    intro g3 W' hb
    have nBK := aq (blk_below BK.out hb)
    have nSK := aq (blk_below SK.out hb)
    have nHB := aq (below_step HB.out hb)
    have nHV := aq (kV_below HV.out hb)
    clear BK SK HB HV  hb
    have BK := nBK
    have SK := nSK
    have HB := nHB
    have HV := nHV
    clear nBK nSK nHB nHV 
    refine hK.out _ _ ⟨bc SK 0, bc BK 0, bc BK 1⟩ (fun hHeld => ?_)
    clear hK K
    refine nm ?_
    refine on1 2 7 fun K hK => ?_
    refine gS Tryd.func57 #[.agg #[.int .u64 lv, .int .u64 ix]] ?_
    refine (impl_fromNode.calls lv ix lv ix _ rfl).mono ?_
    rintro e W' ⟨rfl, hb⟩
    refine ⟨_, rfl, ?_⟩
    have nBK := aq (blk_below BK.out hb)
    have nSK := aq (blk_below SK.out hb)
    have nHB := aq (below_step HB.out hb)
    have nHV := aq (kV_below HV.out hb)
    clear BK SK HB HV  hb
    have BK := nBK
    have SK := nSK
    have HB := nHB
    have HV := nHV
    clear nBK nSK nHB nHV 
    refine hK.out _ _ ⟨bc SK 0, bc BK 0, bc BK 1⟩ (fun hHeld => ?_)
    clear hK K
    refine nm ?_
    refine on1 5 10 fun K hK => ?_
    refine app_step g3 (.tmp 8) (.tmp 9) rfl rfl rfl rfl rfl (Kd.C_below HL.out HB.out) hll ?_
    intro B d W' hd hC hb
    have nBK := aq (blk_below BK.out hb)
    have nSK := aq (blk_below SK.out hb)
    have nHB := aq (below_step HB.out hb)
    have nHV := aq (kV_below HV.out hb)
    clear BK SK HB HV  hb
    have BK := nBK
    have SK := nSK
    have HB := nHB
    have HV := nHV
    clear nBK nSK nHB nHV 
    clear hC
    refine hK.out _ _ ⟨bc SK 0, bc BK 0, bc BK 1⟩ (fun hHeld => ?_)
    clear hK K
    refine nm ?_
    refine pu 6 11 ?_
    refine on1 7 12 fun K hK => ?_
    refine event_step rfl (v := .slice (some ⟨_, 0, none⟩) 1 1) (w1 := World.alloc _ (.cells #[.int .u64 lv, .int .u64 ix, .slice B l.length d] 58)) (by first | (go_simp; done) | (go_simp; rfl) | (go_simp; exact ⟨rfl, rfl⟩)) ?_
    rename World => W2
    have hb := below_alloc (Below.refl W2.heap.size W2) (.cells #[.int .u64 lv, .int .u64 ix, .slice B l.length d] 58)
    refine hK.out _ _ ⟨(blk_cell (blk_below SK.out hb) 0).trans rfl, (blk_cell (blk_below BK.out hb) 0).trans rfl, (blk_cell (blk_below BK.out hb) 1).trans rfl⟩ (fun hHeld => ?_)
    clear hK K
    refine nm ?_
    refine on1 8 13 fun K hK => ?_
    refine Kd.R_append_step kV (w0 := w) (gs + 1) rfl (.tmp 5) (.tmp 12) 37 58 (.agg #[.int .u64 0, .int .u64 0, .slice none 0 0]) 40 rfl Tryd.underlying37 infoV rfl (by decide) (by omega) v (List.replicate n ()) () [.int .u64 lv, .int .u64 ix, .slice B l.length d] (fun _ => True) (fun _ => False) rfl rfl ⟨rfl, by simp [Value.oneCell']⟩ (fun _ h => h.elim) (fun _ _ => trivial) HV.out (Below.mono HB.out (by omega)) (Nat.le_trans (by omega) (below_size HB.out)) (by simp; omega) ?_
    intro v1 w1 hR1 hB1 hG1 hA1
    have hlt := below_size HB.out
    have SK1 := aq ((hG1.block gs (by omega) (fun h => by have := (kV_lt HV0.out gs h.symm).1; omega)).trans SK.out)
    have BK1 := aq ((hG1.block w.heap.size (lt_of_block BK.out) (fun h => by have := (kV_lt HV0.out w.heap.size h.symm).2; omega)).trans BK.out)
    have K1 : Aside0 (∀ k, k < w.heap.size → k ≠ gs → some k ≠ v.ownBlock → w1.heap[k]? = w.heap[k]?) := ⟨fun k hk _ hv => (hG1.block k (by omega) hv).trans (HB.out.block k hk)⟩
    have A1 : Aside0 (v1.ownBlock = v.ownBlock ∨ ∃ b, v1.ownBlock = some b ∧ w.heap.size ≤ b) := ⟨hA1.imp id fun ⟨b, h1, h2⟩ => ⟨b, h1, Nat.le_trans hlt h2⟩⟩
    have B1 := aq (Below.mono hB1 (Nat.le_succ gs))
    have R1 := aq hR1
    clear hG1 hA1 hB1 hR1 SK BK HB HV hHeld
    refine hK.out _ _ ⟨bc SK1 0, bc BK1 0, bc BK1 1⟩ (fun hHeld => ?_)
    clear hK K
    refine nm ?_
    obtain ⟨Av, nv, cv, rfl⟩ := kV_slice R1.out
    have hc := cell_of_one SK1.out
    have hf := free_of_one SK1.out
    refine last_ (i := 9) (N := none) #[true, true, true, true, true, true, true, true, true, true] rfl rfl (by kernel_rfl) (by simp) (fun K hK => ?_)
    refine store_step rfl (w1 := w1.setCell ⟨gs, 0, none⟩ (.slice Av nv cv)) (by first | (go_simp; done) | (go_simp; rfl) | (go_simp; exact ⟨rfl, rfl⟩)) ?_
    refine hK.out _ _ ?_
    clear hK K
    refine norm_ (a' := ?_) ?_ ?_
    rotate_left
    · show Act.put _ none _ = _
      first | rfl | (simp only [Act.put]; rfl) | simp only [Act.put]
    refine done_ (by kernel_rfl) ?_
    go_end0
    exact ⟨_, _, rfl, one_setCell SK1.out, (by rw [List.replicate_succ']; exact kV_move R1.out (fun k hk => Below.heap_setCell _ _ _ k (by have := (kV_lt R1.out k hk).1; simp; omega))), fun k h1 h2 h3 => (Below.heap_setCell _ _ _ k h2).trans (K1.out k h1 h2 h3), A1.out, Below.setCell B1.out (by simp) _⟩
end Go.Proofs.YtfhcpniibiobgaaDoor.Qe
namespace Go.Proofs.YtfhcpniibiobgaaDoor.Qe
open Go.Proofs.YtfhcpniibiobgaaDoor.Qf
open Go.RowKit Go.Proofs.YtfhcpniibiobgaaDoorW.PrintWords Go.Proofs.YtfhcpniibiobgaaDoorW.PrintLast Go.Proofs.YtfhcpniibiobgaaDoorW.PrintMore
open Hs (CB CL at_L at_B infoB infoL R_of_blk)
abbrev rangeObj (gf : Nat) (b e : Int) (A : Option Addr) (n c : Nat) : Obj := .cells #[.pointer (some ⟨gf, 0, none⟩), .int .u64 b, .int .u64 e, .slice A n c] 151 (0, 0)
abbrev facObj (a0 a1 a2 a3 a4 a5 : Int) : Obj := .cells #[.func (.func 53) #[.agg #[.int .i64 a0, .int .i64 a1, .int .i64 a2, .int .u64 a3, .int .u64 a4, .int .u64 a5]] #[]] 100 (0, 0)
set_option maxHeartbeats 1000000 in
set_option maxRecDepth 100000 in
theorem newRange_calls (gf : Nat) (b e : Nat) (A : Option Addr) (n c : Nat) (hbe : b ≤ e) (hs : compact_RangeSize.f (b : Int) (e : Int) = some (n : Int)) (w : World) :
    Calls Tryd.prog 54 #[.pointer (some ⟨gf, 0, none⟩), .int .u64 (b : Nat), .int .u64 (e : Nat), .slice A n c] w fun en w' => ∃ g, en = .returned (.tuple #[.pointer (some ⟨g, 0, none⟩), .nilIface]) ∧ w.heap.size ≤ g ∧ g < w'.heap.size ∧ w'.heap[g]? = some (rangeObj gf (b : Int) (e : Int) A n c) ∧ Below w.heap.size w w' := by
  have RS := aq (compact_RangeSize.calls (b : Int) (e : Int) (n : Int) w hs)
  have t1 : decide (e < b) = false := decide_eq_false (by omega)
  have t2 : decide ((e : Int) < (b : Int)) = false := decide_eq_false (by omega)
  have t3 : ((n : Int) != (n : Int)) = false := by simp
  clear hbe hs
  go_enter Tryd.func54, Tryd.ntmps54
  go_wp2_with (first | (go_at_call 88; (with_reducible refine RS.out.mono ?_); rintro en w1 ⟨rfl, hd⟩; have HB := aq hd.below; clear hd))
  go_ret2
  exact ⟨_, rfl, below_size HB.out, by simp, heap_alloc_new _ _, below_step HB.out (below_alloc (Below.refl _ _) _)⟩
theorem CB_frame {w w' : World} {A : Option Addr} {l : List Int} (h : CB w A l) (hm : 0 < l.length → ∀ ad, A = some ad → w'.heap[ad.block]? = w.heap[ad.block]?) : CB w' A l :=
  ⟨h.1, h.2.1, fun hp => by
    obtain ⟨ad, e, hc⟩ := h.2.2 hp
    refine ⟨ad, e, fun j p hj => ?_⟩
    obtain ⟨c, hl, hk, hcell⟩ := hc j p hj
    refine ⟨c, hl, hk, fun i u hu => ?_⟩
    rw [← hcell i u hu]
    unfold World.cell?
    rw [show (ad.add (j * (Kd.int .u8).sz + i)).block = ad.block by unfold Addr.add; split <;> rfl, hm hp ad e]⟩
theorem hash_blk {W : World} {base : Nat} {ok : Nat → Prop} {A : Option Addr} {n c : Nat} {l : List Int} (h : Kd.R (Kd.int .u8) 5 W base ok (.slice A n c) l) : ∀ ad, A = some ad → base ≤ ad.block ∧ ad.block < W.heap.size := by
  rintro ad rfl
  exact ⟨Kd.R_base h _ rfl, Kd.R_lt h _ rfl⟩
structure Seen (w0 w : World) (n : Nat) (v : Value) : Prop where
  below : Below w0.heap.size w0 w
  cell : w.heap[w0.heap.size]? = some (.cells #[v] 37 (0, 0))
  row : kV.R 58 w (w0.heap.size + 1) (fun _ => True) v (List.replicate n ())
theorem Seen.step {w0 w w' : World} {n : Nat} {v : Value} (h : Seen w0 w n v) (hb : Below w.heap.size w w') : Seen w0 w' n v :=
  ⟨below_step h.below hb, blk_below h.cell hb, kV_below h.row hb⟩
structure Apart (w0 w : World) (v : Value) (A : Option Addr) (s : List Int) : Prop where
  bytes : CB w A s
  away : 0 < s.length → ∀ ad, A = some ad → ad.block < w.heap.size ∧ ad.block ≠ w0.heap.size ∧ some ad.block ≠ v.ownBlock
theorem Apart.step {w0 w w' : World} {v : Value} {A : Option Addr} {s : List Int} (h : Apart w0 w v A s) (hb : Below w.heap.size w w') : Apart w0 w' v A s :=
  ⟨Kd.C_below h.bytes hb, fun hp ad e => ⟨Nat.lt_of_lt_of_le (h.away hp ad e).1 hb.size, (h.away hp ad e).2⟩⟩
theorem Apart.new {w0 w w' : World} {n : Nat} {v : Value} {A : Option Addr} {c : Nat} {s : List Int} (h : Seen w0 w n v) (hr : Kd.R (Kd.int .u8) 5 w' w.heap.size (fun _ => True) (.slice A s.length c) s) : Apart w0 w' v A s :=
  ⟨(Kd.R_reads' hr).2.2, fun _ ad e => by
    obtain ⟨h1, h2⟩ := hash_blk hr ad e
    have h3 := lt_of_block h.cell
    refine ⟨h2, by omega, fun he => ?_⟩
    have := (kV_lt h.row ad.block he.symm).2
    omega⟩
theorem Apart.old {w0 w : World} {n : Nat} {v : Value} {A : Option Addr} {s : List Int} (h : Seen w0 w n v) (hb : CB w0 A s) : Apart w0 w v A s :=
  ⟨Kd.C_below hb h.below, fun hp ad e => by
    obtain ⟨ad', e', hc⟩ := at_B hb 0 hp
    rw [e] at e'
    cases e'
    have h1 := World.block_lt_of_cell? w0 _ hc
    rw [Addr.add_zero'] at h1
    have h2 := h.below.size
    refine ⟨by omega, by omega, fun he => ?_⟩
    have := (kV_lt h.row ad.block he.symm).1
    omega⟩
theorem below_sz {a b c : World} (h1 : Below a.heap.size a b) (h2 : Below a.heap.size b c) : Below a.heap.size a c := h1.trans h2
theorem visit_seen {w0 w : World} {n : Nat} {v : Value} (lv ix : Int) (A : Option Addr) (c : Nat) (s : List Int) (h : Seen w0 w n v) (ha : Apart w0 w v A s) (hs : s.length ≤ 140737488351232) (hn : n ≤ 1000) :
    Calls Tryd.prog 56 #[.agg #[.int .u64 lv, .int .u64 ix], .slice A s.length c, .pointer (some ⟨w0.heap.size, 0, none⟩)] w fun e w' => ∃ v0 v', e = .returned v0 ∧ Seen w0 w' (n + 1) v' ∧ Apart w0 w' v' A s ∧ w.heap.size ≤ w'.heap.size :=
  (visit_calls lv ix A c s w0.heap.size n v w ha.bytes hs h.cell (lt_of_block h.cell) h.row hn).mono fun _ w' ⟨v0, v', h1, h2, h3, h4, h5, h6⟩ => by
    have hsz : w.heap.size ≤ w'.heap.size := h6.size
    refine ⟨v0, v', h1, ⟨below_sz h.below h6, h2, h3⟩, ⟨CB_frame ha.bytes fun hp ad e => h4 _ (ha.away hp ad e).1 (ha.away hp ad e).2.1 (ha.away hp ad e).2.2, fun hp ad e => ⟨by have := (ha.away hp ad e).1; omega, (ha.away hp ad e).2.1, ?_⟩⟩, hsz⟩
    rcases h5 with h5 | ⟨b, h5, h7⟩
    · rw [h5]
      exact (ha.away hp ad e).2.2
    · rw [h5]
      intro he
      injection he with he
      have := (ha.away hp ad e).1
      omega
end Go.Proofs.YtfhcpniibiobgaaDoor.Qe
namespace Go.Proofs.YtfhcpniibiobgaaDoor.Qe
open Go.Proofs.YtfhcpniibiobgaaDoor.Qf
open Go.RowKit Go.Proofs.YtfhcpniibiobgaaDoorW.PrintWords Go.Proofs.YtfhcpniibiobgaaDoorW.PrintLast Go.Proofs.YtfhcpniibiobgaaDoorW.PrintMore
open Hs (CB CL at_L at_B infoB infoL R_of_blk)
set_option maxHeartbeats 4000000 in
set_option maxRecDepth 100000 in
theorem implVI_of (a0 a1 a2 a3 a4 a5 ix sz : Int) (A1 : Option Addr) (c1 : Nat) (l1 : List Int) (A2 : Option Addr) (c2 : Nat) (L : List (List Int)) (A3 : Option Addr) (c3 : Nat) (l3 : List Int) (w : World)
    (h1 : CB w A1 l1) (h2 : CL w A2 L) (h3 : CB w A3 l3) (hl1 : l1.length ≤ 140737488351232) (hl3 : l3.length ≤ 140737488351232) (hc2 : L.length ≤ c2) (k : Nat) (htx : impl_texts.f k L = some L) (r1 : Int) (r2 : List Int)
    (hv : ∀ (W : World) (B1 : Option Addr) (d1 : Nat) (B2 : Option Addr) (d2 : Nat) (B3 : Option Addr) (d3 : Nat), CB W B1 l1 → l1.length ≤ d1 → CL W B2 L → L.length ≤ d2 → CB W B3 l3 → l3.length ≤ d3 →
      Calls Tryd.prog 78 #[toyV a0 a1 a2 a3 a4 a5, .int .u64 ix, .int .u64 sz, .slice B1 l1.length d1, .slice B2 L.length d2, .slice B3 l3.length d3] W fun e W' => ∃ v, e = .returned v ∧ Below W.heap.size W W' ∧
        Calls Tryd.prog 59 #[v] W' fun e' W'' => ∃ v2, e' = .returned (.tuple #[.int .i64 r1, v2]) ∧ Kd.R (Kd.int .u8) 5 W'' W'.heap.size (fun _ => True) v2 r2 ∧ Below W'.heap.size W' W'') :
    Calls Tryd.prog 38 #[.agg #[.int .i64 a0, .int .i64 a1, .int .i64 a2, .int .u64 a3, .int .u64 a4, .int .u64 a5], .int .u64 ix, .int .u64 sz, .slice A1 l1.length c1, .slice A2 L.length c2, .slice A3 l3.length c3] w fun e w' => ∃ v2, e = .returned (.tuple #[.int .i64 r1, v2]) ∧ Kd.R (Kd.int .u8) 5 w' w.heap.size (fun _ => True) v2 r2 ∧ Below w.heap.size w w' := by
  have H1 := aq h1
  have H2 := aq h2
  have H3 := aq h3
  have HV := aq hv
  clear h1 h2 h3 hv
  go_enter Tryd.func38, Tryd.ntmps38
  try go_wp2_with (fail)
  have BK : Aside0 (((w.alloc (.cells #[.int .i64 a0, .int .i64 a1, .int .i64 a2, .int .u64 a3, .int .u64 a4, .int .u64 a5] 24)).drew).heap[w.heap.size]? = some (.cells #[.int .i64 a0, .int .i64 a1, .int .i64 a2, .int .u64 a3, .int .u64 a4, .int .u64 a5] 24 (0, 0))) := ⟨blk_drew (heap_alloc_new w _)⟩
  have HB := aq (below_drew1 (below_alloc (Below.refl w.heap.size w) (.cells #[.int .i64 a0, .int .i64 a1, .int .i64 a2, .int .u64 a3, .int .u64 a4, .int .u64 a5] 24)))
  refine start_ (n := 19) (S := fun w' => w'.cell? ⟨w.heap.size, 0, none⟩ = some (.int .i64 a0) ∧ w'.cell? ⟨w.heap.size, 1, none⟩ = some (.int .i64 a1) ∧ w'.cell? ⟨w.heap.size, 2, none⟩ = some (.int .i64 a2) ∧ w'.cell? ⟨w.heap.size, 3, none⟩ = some (.int .u64 a3) ∧ w'.cell? ⟨w.heap.size, 4, none⟩ = some (.int .u64 a4) ∧ w'.cell? ⟨w.heap.size, 5, none⟩ = some (.int .u64 a5)) (ds := []) #[false, false, false, false, false, false, false, false, false, false, false, false, false, false, false, false, false, false, false] (by kernel_rfl) rfl rfl ⟨bc BK 0, bc BK 1, bc BK 2, bc BK 3, bc BK 4, bc BK 5⟩ (fun hHeld => ?_)
  generalize (w.alloc (.cells #[.int .i64 a0, .int .i64 a1, .int .i64 a2, .int .u64 a3, .int .u64 a4, .int .u64 a5] 24)).drew = wz at BK HB hHeld ⊢
  refine pu 3 17 ?_
  refine pu 4 18 ?_
  refine pu 6 20 ?_
  refine pu 8 22 ?_
  refine pu 11 25 ?_
  refine ta 0 14 hHeld ?_
  refine pu 1 15 ?_
  refine pu 2 16 ?_
  refine join_ (σ := Option Addr × Nat × Option Addr × Nat × Nat × Nat) 7 #[true, true, true, true, true, true, true, true, true, true, true, true, false, false, false, false, false, false, false] (fun s_ => [(19, .slice (some ⟨s_.2.2.2.2.1, 0, none⟩) 0 0), (21, .slice s_.1 l1.length s_.2.1), (23, .slice s_.2.2.1 L.length s_.2.2.2.1), (24, .slice (some ⟨s_.2.2.2.2.2, 0, none⟩) 0 0)]) (fun s_ w' => w'.heap[w.heap.size]? = some (.cells #[.int .i64 a0, .int .i64 a1, .int .i64 a2, .int .u64 a3, .int .u64 a4, .int .u64 a5] 24 (0, 0)) ∧ Below w.heap.size w w' ∧ CB w' s_.1 l1 ∧ l1.length ≤ s_.2.1 ∧ CL w' s_.2.2.1 L ∧ L.length ≤ s_.2.2.2.1) ?_ ?_
  rotate_left
  · intro hCont
    refine two_ (i := 5) (j := 10) (Ni := some 19) (Nj := some 24) #[true, true, true, true, true, true, true, false, true, false, false, true, false, false, false, false, false, false, false] #[true, true, true, true, true, false, true, false, true, false, true, true, false, false, false, false, false, false, false] rfl rfl rfl rfl (by kernel_rfl) (by decide) (by decide) (fun K hK => ?_) (fun K hK => ?_)
    · skip
      refine event_step rfl (by first | (go_simp; done) | (go_simp; rfl) | (go_simp; exact ⟨rfl, rfl⟩)) ?_
      refine new_lit _ _ ?_
      intro g5 W' hb
      have nBK := aq (blk_below BK.out hb)
      have nHB := aq (below_step HB.out hb)
      clear BK HB  hb
      have BK := nBK
      have HB := nHB
      clear nBK nHB 
      refine hK.out _ _ ⟨bc BK 0, bc BK 1, bc BK 2, bc BK 3, bc BK 4, bc BK 5⟩ (fun hHeld => ?_)
      clear hK K
      refine nm ?_
      refine two_ (i := 7) (j := 10) (Ni := some 21) (Nj := some 24) #[true, true, true, true, true, true, true, true, true, false, false, true, false, false, false, false, false, false, false] #[true, true, true, true, true, true, true, false, true, false, true, true, false, false, false, false, false, false, false] rfl rfl rfl rfl (by kernel_rfl) (by decide) (by decide) (fun K hK => ?_) (fun K hK => ?_)
      · skip
        refine app_step g5 (.tmp 19) (.tmp 20) rfl rfl rfl rfl rfl (Kd.C_below H1.out HB.out) hl1 ?_
        intro B1 d1 W' hd1 hC hb
        have nBK := aq (blk_below BK.out hb)
        have nHB := aq (below_step HB.out hb)
        clear BK HB  hb
        have BK := nBK
        have HB := nHB
        clear nBK nHB 
        have F1 := aq hC
        clear hC
        refine hK.out _ _ ⟨bc BK 0, bc BK 1, bc BK 2, bc BK 3, bc BK 4, bc BK 5⟩ (fun hHeld => ?_)
        clear hK K
        refine nm ?_
        refine two_ (i := 9) (j := 10) (Ni := some 23) (Nj := some 24) #[true, true, true, true, true, true, true, true, true, true, false, true, false, false, false, false, false, false, false] #[true, true, true, true, true, true, true, true, true, false, true, true, false, false, false, false, false, false, false] rfl rfl rfl rfl (by kernel_rfl) (by decide) (by decide) (fun K hK => ?_) (fun K hK => ?_)
        · skip
          refine gS Tryd.func48 #[.slice A2 L.length c2] ?_
          refine (impl_texts.calls _ _ c2 L L _ (Kd.C_below H2.out HB.out) hc2 htx).mono ?_
          rintro e W' ⟨v23, rfl, hS, hb⟩
          refine ⟨_, rfl, ?_⟩
          obtain ⟨B2, d2, rfl, hd2, hC⟩ := Kd.S_reads hS
          clear hS
          replace BK := aq (blk_below BK.out hb)
          replace HB := aq (below_step HB.out hb)
          replace F1 := aq (Kd.C_below F1.out hb)
          clear hb
          have F2 := aq hC
          clear hC
          refine hK.out _ _ ⟨bc BK 0, bc BK 1, bc BK 2, bc BK 3, bc BK 4, bc BK 5⟩ (fun hHeld => ?_)
          clear hK K
          refine nm ?_
          refine on1 10 24 fun K hK => ?_
          refine event_step rfl (by first | (go_simp; done) | (go_simp; rfl) | (go_simp; exact ⟨rfl, rfl⟩)) ?_
          refine new_lit _ _ ?_
          intro g10 W' hb
          replace BK := aq (blk_below BK.out hb)
          replace HB := aq (below_step HB.out hb)
          replace F1 := aq (Kd.C_below F1.out hb)
          replace F2 := aq (Kd.C_below F2.out hb)
          clear hb
          refine hK.out _ _ ⟨bc BK 0, bc BK 1, bc BK 2, bc BK 3, bc BK 4, bc BK 5⟩ (fun hHeld => ?_)
          clear hK K
          refine nm ?_
          exact norm_ (by simp only [putAll, Act.put, List.setIfInBounds_toArray, List.set_cons_zero, List.set_cons_succ]) (hCont (B1, d1, B2, d2, g5, g10) _ ⟨BK.out, HB.out, F1.out, hd1, F2.out, hd2⟩)
        · skip
          refine event_step rfl (by first | (go_simp; done) | (go_simp; rfl) | (go_simp; exact ⟨rfl, rfl⟩)) ?_
          refine new_lit _ _ ?_
          intro g10 W' hb
          replace BK := aq (blk_below BK.out hb)
          replace HB := aq (below_step HB.out hb)
          replace F1 := aq (Kd.C_below F1.out hb)
          clear hb
          refine hK.out _ _ ⟨bc BK 0, bc BK 1, bc BK 2, bc BK 3, bc BK 4, bc BK 5⟩ (fun hHeld => ?_)
          clear hK K
          refine nm ?_
          refine on1 9 23 fun K hK => ?_
          refine gS Tryd.func48 #[.slice A2 L.length c2] ?_
          refine (impl_texts.calls _ _ c2 L L _ (Kd.C_below H2.out HB.out) hc2 htx).mono ?_
          rintro e W' ⟨v23, rfl, hS, hb⟩
          refine ⟨_, rfl, ?_⟩
          obtain ⟨B2, d2, rfl, hd2, hC⟩ := Kd.S_reads hS
          clear hS
          replace BK := aq (blk_below BK.out hb)
          replace HB := aq (below_step HB.out hb)
          replace F1 := aq (Kd.C_below F1.out hb)
          clear hb
          have F2 := aq hC
          clear hC
          refine hK.out _ _ ⟨bc BK 0, bc BK 1, bc BK 2, bc BK 3, bc BK 4, bc BK 5⟩ (fun hHeld => ?_)
          clear hK K
          refine nm ?_
          exact norm_ (by simp only [putAll, Act.put, List.setIfInBounds_toArray, List.set_cons_zero, List.set_cons_succ]) (hCont (B1, d1, B2, d2, g5, g10) _ ⟨BK.out, HB.out, F1.out, hd1, F2.out, hd2⟩)
      · skip
        refine event_step rfl (by first | (go_simp; done) | (go_simp; rfl) | (go_simp; exact ⟨rfl, rfl⟩)) ?_
        refine new_lit _ _ ?_
        intro g10 W' hb
        have nBK := aq (blk_below BK.out hb)
        have nHB := aq (below_step HB.out hb)
        clear BK HB  hb
        have BK := nBK
        have HB := nHB
        clear nBK nHB 
        refine hK.out _ _ ⟨bc BK 0, bc BK 1, bc BK 2, bc BK 3, bc BK 4, bc BK 5⟩ (fun hHeld => ?_)
        clear hK K
        refine nm ?_
        refine on1 7 21 fun K hK => ?_
        refine app_step g5 (.tmp 19) (.tmp 20) rfl rfl rfl rfl rfl (Kd.C_below H1.out HB.out) hl1 ?_
        intro B1 d1 W' hd1 hC hb
        have nBK := aq (blk_below BK.out hb)
        have nHB := aq (below_step HB.out hb)
        clear BK HB  hb
        have BK := nBK
        have HB := nHB
        clear nBK nHB 
        have F1 := aq hC
        clear hC
        refine hK.out _ _ ⟨bc BK 0, bc BK 1, bc BK 2, bc BK 3, bc BK 4, bc BK 5⟩ (fun hHeld => ?_)
        clear hK K
        refine nm ?_
        refine on1 9 23 fun K hK => ?_
        refine gS Tryd.func48 #[.slice A2 L.length c2] ?_
        refine (impl_texts.calls _ _ c2 L L _ (Kd.C_below H2.out HB.out) hc2 htx).mono ?_
        rintro e W' ⟨v23, rfl, hS, hb⟩
        refine ⟨_, rfl, ?_⟩
        obtain ⟨B2, d2, rfl, hd2, hC⟩ := Kd.S_reads hS
        clear hS
        replace BK := aq (blk_below BK.out hb)
        replace HB := aq (below_step HB.out hb)
        replace F1 := aq (Kd.C_below F1.out hb)
        clear hb
        have F2 := aq hC
        clear hC
        refine hK.out _ _ ⟨bc BK 0, bc BK 1, bc BK 2, bc BK 3, bc BK 4, bc BK 5⟩ (fun hHeld => ?_)
        clear hK K
        refine nm ?_
        exact norm_ (by simp only [putAll, Act.put, List.setIfInBounds_toArray, List.set_cons_zero, List.set_cons_succ]) (hCont (B1, d1, B2, d2, g5, g10) _ ⟨BK.out, HB.out, F1.out, hd1, F2.out, hd2⟩)
    · skip
      refine event_step rfl (by first | (go_simp; done) | (go_simp; rfl) | (go_simp; exact ⟨rfl, rfl⟩)) ?_
      refine new_lit _ _ ?_
      intro g10 W' hb
      have nBK := aq (blk_below BK.out hb)
      have nHB := aq (below_step HB.out hb)
      clear BK HB  hb
      have BK := nBK
      have HB := nHB
      clear nBK nHB 
      refine hK.out _ _ ⟨bc BK 0, bc BK 1, bc BK 2, bc BK 3, bc BK 4, bc BK 5⟩ (fun hHeld => ?_)
      clear hK K
      refine nm ?_
      refine on1 5 19 fun K hK => ?_
      refine event_step rfl (by first | (go_simp; done) | (go_simp; rfl) | (go_simp; exact ⟨rfl, rfl⟩)) ?_
      refine new_lit _ _ ?_
      intro g5 W' hb
      have nBK := aq (blk_below BK.out hb)
      have nHB := aq (below_step HB.out hb)
      clear BK HB  hb
      have BK := nBK
      have HB := nHB
      clear nBK nHB 
      refine hK.out _ _ ⟨bc BK 0, bc BK 1, bc BK 2, bc BK 3, bc BK 4, bc BK 5⟩ (fun hHeld => ?_)
      clear hK K
      refine nm ?_
      refine on1 7 21 fun K hK => ?_
      refine app_step g5 (.tmp 19) (.tmp 20) rfl rfl rfl rfl rfl (Kd.C_below H1.out HB.out) hl1 ?_
      intro B1 d1 W' hd1 hC hb
      have nBK := aq (blk_below BK.out hb)
      have nHB := aq (below_step HB.out hb)
      clear BK HB  hb
      have BK := nBK
      have HB := nHB
      clear nBK nHB 
      have F1 := aq hC
      clear hC
      refine hK.out _ _ ⟨bc BK 0, bc BK 1, bc BK 2, bc BK 3, bc BK 4, bc BK 5⟩ (fun hHeld => ?_)
      clear hK K
      refine nm ?_
      refine on1 9 23 fun K hK => ?_
      refine gS Tryd.func48 #[.slice A2 L.length c2] ?_
      refine (impl_texts.calls _ _ c2 L L _ (Kd.C_below H2.out HB.out) hc2 htx).mono ?_
      rintro e W' ⟨v23, rfl, hS, hb⟩
      refine ⟨_, rfl, ?_⟩
      obtain ⟨B2, d2, rfl, hd2, hC⟩ := Kd.S_reads hS
      clear hS
      replace BK := aq (blk_below BK.out hb)
      replace HB := aq (below_step HB.out hb)
      replace F1 := aq (Kd.C_below F1.out hb)
      clear hb
      have F2 := aq hC
      clear hC
      refine hK.out _ _ ⟨bc BK 0, bc BK 1, bc BK 2, bc BK 3, bc BK 4, bc BK 5⟩ (fun hHeld => ?_)
      clear hK K
      refine nm ?_
      exact norm_ (by simp only [putAll, Act.put, List.setIfInBounds_toArray, List.set_cons_zero, List.set_cons_succ]) (hCont (B1, d1, B2, d2, g5, g10) _ ⟨BK.out, HB.out, F1.out, hd1, F2.out, hd2⟩)
  clear BK HB hHeld
  rintro ⟨B1, d1, B2, d2, g5, g10⟩ W1 ⟨bk, hb0, f1, hd1, f2, hd2⟩
  have BK := aq bk
  have HB := aq hb0
  have F1 := aq f1
  have F2 := aq f2
  clear bk hb0 f1 f2
  dsimp only at hd1 hd2 F1 F2
  refine norm_ (a' := ?_) ?_ ?_
  rotate_left
  · simp only [putAll, Act.put, List.setIfInBounds_toArray, List.set_cons_zero, List.set_cons_succ]
    rfl
  refine on1 12 26 fun K hK => ?_
  refine app_step g10 (.tmp 24) (.tmp 25) rfl rfl rfl rfl rfl (Kd.C_below H3.out HB.out) hl3 ?_
  intro B3 d3 W' hd3 hC hb
  replace BK := aq (blk_below BK.out hb)
  replace HB := aq (below_step HB.out hb)
  replace F1 := aq (Kd.C_below F1.out hb)
  replace F2 := aq (Kd.C_below F2.out hb)
  clear hb
  have F3 := aq hC
  clear hC
  refine hK.out _ _ ⟨bc BK 0, bc BK 1, bc BK 2, bc BK 3, bc BK 4, bc BK 5⟩ (fun hHeld => ?_)
  clear hK K
  refine nm ?_
  refine on1 13 27 fun K hK => ?_
  refine gS Tryd.func78 #[toyV a0 a1 a2 a3 a4 a5, .int .u64 ix, .int .u64 sz, .slice B1 l1.length d1, .slice B2 L.length d2, .slice B3 l3.length d3] ?_
  refine (HV.out _ B1 d1 B2 d2 B3 d3 F1.out hd1 F2.out hd2 F3.out hd3).mono ?_
  rintro e W' ⟨v, rfl, hb, hcv⟩
  refine ⟨_, rfl, ?_⟩
  have HCV := aq hcv
  clear hcv
  have nBK := aq (blk_below BK.out hb)
  have nHB := aq (below_step HB.out hb)
  clear BK HB  hb
  have BK := nBK
  have HB := nHB
  clear nBK nHB 
  refine hK.out _ _ ⟨bc BK 0, bc BK 1, bc BK 2, bc BK 3, bc BK 4, bc BK 5⟩ (fun hHeld => ?_)
  clear hK K
  refine nm ?_
  refine on1 14 28 fun K hK => ?_
  refine gS Tryd.func59 #[v] ?_
  refine HCV.out.mono ?_
  rintro e W'' ⟨v2, rfl, hR, hb⟩
  refine ⟨_, rfl, ?_⟩
  have HR := aq (Kd.R_lower (base' := w.heap.size) hR (below_size HB.out))
  clear hR
  have nBK := aq (blk_below BK.out hb)
  have nHB := aq (below_step HB.out hb)
  clear BK HB  hb
  have BK := nBK
  have HB := nHB
  clear nBK nHB 
  refine hK.out _ _ ⟨bc BK 0, bc BK 1, bc BK 2, bc BK 3, bc BK 4, bc BK 5⟩ (fun hHeld => ?_)
  clear hK K
  refine nm ?_
  refine pu 15 29 ?_
  refine pu 16 30 ?_
  refine pu 17 12 ?_
  refine pu 18 13 ?_
  refine done_ (by kernel_rfl) ?_
  try go_wp2
  go_ret2
  exact ⟨_, rfl, HR.out, HB.out⟩
end Go.Proofs.YtfhcpniibiobgaaDoor.Qe
namespace Go.Proofs.YtfhcpniibiobgaaDoor.Qe
open Go.Proofs.YtfhcpniibiobgaaDoor.Qf
open Go.RowKit Go.Proofs.YtfhcpniibiobgaaDoorW.PrintWords Go.Proofs.YtfhcpniibiobgaaDoorW.PrintLast Go.Proofs.YtfhcpniibiobgaaDoorW.PrintMore
open Hs (CB CL at_L at_B infoB infoL R_of_blk)
theorem texts_go (L : List (List Int)) (hL : L.length ≤ 5864062014804) (hrow : ∀ x ∈ L, x.length < 140737488355328) : ∀ (m j k : Nat), j + m = L.length → m < k → impl_texts.l0 k (L.take j) L (L.length : Int) (j : Int) = some L
  | 0, j, k + 1, h, _ => by
    unfold impl_texts.l0
    rw [if_neg (by omega), List.take_of_length_le (by omega)]
  | m + 1, j, k + 1, h, hk => by
    have hj : j < L.length := by omega
    have hx : rd_L1 L (j : Int) = L[j] := by
      show L.getD (j : Int).toNat [] = L[j]
      rw [Int.toNat_natCast, List.getD_eq_getElem?_getD, List.getElem?_eq_getElem hj]
      rfl
    unfold impl_texts.l0
    rw [if_pos (by omega), if_pos (by omega), if_pos (by omega), Option.bind_some, hx, List.nil_append, if_pos (by have := hrow L[j] (List.getElem_mem hj); simpa using this), if_pos (by rw [List.length_take]; omega), ← List.take_succ_eq_append_getElem hj, w64_in _ (by omega), show ((j : Int) + 1) = ((j + 1 : Nat) : Int) by omega]
    exact texts_go L hL hrow m (j + 1) k (by omega) (by omega)
theorem texts_ok (L : List (List Int)) (hL : L.length ≤ 5864062014804) (hrow : ∀ x ∈ L, x.length < 140737488355328) : impl_texts.f (L.length + 1) L = some L := texts_go L hL hrow L.length 0 (L.length + 1) (by omega) (by omega)
def viF (a0 a1 a2 a3 a4 a5 ix sz : Int) (l1 : List Int) (L : List (List Int)) (l3 : List Int) : Option (Int × List Int) :=
  if l1.length ≤ 140737488351232 ∧ l3.length ≤ 140737488351232 ∧ L.length ≤ 5864062014804 ∧ (∀ x ∈ L, x.length < 140737488355328) then
    if sz ≤ ix then some (2, []) else if (l1.length : Int) ≠ a1 then some (2, []) else
    (proof_decompInclProof.f ix sz).bind fun ib =>
      if 0 ≤ ib.1 ∧ ib.1 ≤ 64 ∧ 0 ≤ ib.2 ∧ ib.2 ≤ 64 then
        if (L.length : Int) ≠ ib.1 + ib.2 then some (2, []) else
        (chainI a0 a1 a2 a3 a4 a5 ix (L.take ib.1.toNat) l1 0).bind fun r1 =>
        (chainB a0 a1 a2 a3 a4 a5 (L.drop ib.1.toNat) r1).bind fun r =>
        if sameB r l3 then some (0, []) else if r.length ≤ 140737488351232 then some (1, r) else none
      else none
  else none
theorem nilR (W : World) (b : Nat) : Kd.R (Kd.int .u8) 5 W b (fun _ => True) (.slice none 0 0) ([] : List Int) :=
  ⟨fun _ _ => trivial, [], World.ownsRow_nil W b 5 1, Reps.none _ _⟩
set_option maxHeartbeats 1000000 in
theorem viF_calls (a0 a1 a2 a3 a4 a5 ix sz : Int) (A1 : Option Addr) (c1 : Nat) (l1 : List Int) (A2 : Option Addr) (c2 : Nat) (L : List (List Int)) (A3 : Option Addr) (c3 : Nat) (l3 : List Int) (r1 : Int) (r2 : List Int) (w : World)
    (h1 : CB w A1 l1) (h2 : CL w A2 L) (hc2 : L.length ≤ c2) (h3 : CB w A3 l3) (h : viF a0 a1 a2 a3 a4 a5 ix sz l1 L l3 = some (r1, r2)) :
    Calls Tryd.prog 38 #[.agg #[.int .i64 a0, .int .i64 a1, .int .i64 a2, .int .u64 a3, .int .u64 a4, .int .u64 a5], .int .u64 ix, .int .u64 sz, .slice A1 l1.length c1, .slice A2 L.length c2, .slice A3 l3.length c3] w fun e w' => ∃ v2, e = .returned (.tuple #[.int .i64 r1, v2]) ∧ Kd.R (Kd.int .u8) 5 w' w.heap.size (fun _ => True) v2 r2 ∧ Below w.heap.size w w' := by
  unfold viF at h
  by_cases hb : l1.length ≤ 140737488351232 ∧ l3.length ≤ 140737488351232 ∧ L.length ≤ 5864062014804 ∧ (∀ x ∈ L, x.length < 140737488355328)
  case neg => rw [if_neg hb] at h; cases h
  rw [if_pos hb] at h
  obtain ⟨hl1, hl3, hLl, hrow⟩ := hb
  refine implVI_of a0 a1 a2 a3 a4 a5 ix sz A1 c1 l1 A2 c2 L A3 c3 l3 w h1 h2 h3 hl1 hl3 hc2 (L.length + 1) (texts_ok L hLl hrow) r1 r2 fun W B1 d1 B2 d2 B3 d3 k1 kd1 k2 kd2 k3 kd3 => ?_
  have err : (r1, r2) = (2, ([] : List Int)) → (Calls Tryd.prog 107 #[toyV a0 a1 a2 a3 a4 a5, .int .u64 ix, .int .u64 sz, .slice B1 l1.length d1, .slice B2 L.length d2] W fun e w' => ∃ x, e = .returned (.tuple #[.slice none 0 0, .iface 175 (.pointer (some x))]) ∧ Below W.heap.size W w') → (Calls Tryd.prog 78 #[toyV a0 a1 a2 a3 a4 a5, .int .u64 ix, .int .u64 sz, .slice B1 l1.length d1, .slice B2 L.length d2, .slice B3 l3.length d3] W fun e W' => ∃ v, e = .returned v ∧ Below W.heap.size W W' ∧
        Calls Tryd.prog 59 #[v] W' fun e' W'' => ∃ v2, e' = .returned (.tuple #[.int .i64 r1, v2]) ∧ Kd.R (Kd.int .u8) 5 W'' W'.heap.size (fun _ => True) v2 r2 ∧ Below W'.heap.size W' W'') := fun he hc =>
    (vi_err a0 a1 a2 a3 a4 a5 ix sz B1 d1 l1.length B2 d2 L.length B3 d3 l3.length W hc).mono fun e W' ⟨x, he', hbl⟩ => ⟨_, he', hbl, (verdict_err x W').mono fun e2 W2 ⟨he2, hb2⟩ => by
      obtain ⟨rfl, rfl⟩ := Prod.mk.inj he
      exact ⟨_, he2, nilR _ _, hb2⟩⟩
  by_cases hlt : sz ≤ ix
  · rw [if_pos hlt] at h
    exact err (Option.some.inj h).symm (root_err1 a0 a1 a2 a3 a4 a5 ix sz B1 d1 l1.length B2 d2 L.length hlt W)
  rw [if_neg hlt] at h
  by_cases hsz : (l1.length : Int) ≠ a1
  · rw [if_pos hsz] at h
    exact err (Option.some.inj h).symm (root_err2 a0 a1 a2 a3 a4 a5 ix sz B1 d1 l1.length B2 d2 L.length (by omega) hsz W)
  rw [if_neg hsz] at h
  have hsz' : (l1.length : Int) = a1 := by omega
  obtain ⟨⟨i, b⟩, hd, h⟩ := Option.bind_eq_some_iff.1 h
  dsimp only at h
  by_cases hib : 0 ≤ i ∧ i ≤ 64 ∧ 0 ≤ b ∧ b ≤ 64
  case neg => rw [if_neg hib] at h; cases h
  rw [if_pos hib] at h
  obtain ⟨inner, rfl⟩ := Int.eq_ofNat_of_zero_le hib.1
  obtain ⟨border, rfl⟩ := Int.eq_ofNat_of_zero_le hib.2.2.1
  by_cases hn : (L.length : Int) ≠ (inner : Int) + (border : Int)
  · rw [if_pos hn] at h
    exact err (Option.some.inj h).symm (root_err3 a0 a1 a2 a3 a4 a5 ix sz B1 d1 l1.length B2 d2 L.length inner border (by omega) hsz' hd ⟨by omega, by omega⟩ (by omega) W)
  rw [if_neg hn] at h
  rw [Int.toNat_natCast] at h
  obtain ⟨q, hq, h⟩ := Option.bind_eq_some_iff.1 h
  obtain ⟨r, hr, h⟩ := Option.bind_eq_some_iff.1 h
  have hok := root_ok a0 a1 a2 a3 a4 a5 ix sz B1 d1 l1 B2 d2 L inner border q r W k1 kd1 k2 kd2 (by omega) (by omega) hsz' hd (by omega) hq hr
  by_cases heq : sameB r l3 = true
  · rw [if_pos heq] at h
    obtain ⟨rfl, rfl⟩ := Prod.mk.inj (Option.some.inj h)
    exact (vi_yes a0 a1 a2 a3 a4 a5 ix sz B1 d1 l1.length B2 d2 L.length B3 d3 l3 r W k3 kd3 heq hok).mono fun e W' ⟨he, hbl⟩ => ⟨_, he, hbl, (verdict_nil W').mono fun e2 W2 ⟨he2, hb2⟩ => ⟨_, he2, nilR _ _, hb2⟩⟩
  · rw [if_neg heq] at h
    by_cases hrl : r.length ≤ 140737488351232
    case neg => rw [if_neg hrl] at h; cases h
    rw [if_pos hrl] at h
    obtain ⟨rfl, rfl⟩ := Prod.mk.inj (Option.some.inj h)
    exact (vi_no a0 a1 a2 a3 a4 a5 ix sz B1 d1 l1.length B2 d2 L.length B3 d3 l3 _ W k3 kd3 (by simpa using heq) hok).mono fun e W' ⟨A, c, he, hle, hC, hbl⟩ => ⟨_, he, hbl, (verdict_other B3 d3 l3.length A c _ W' hC hrl)⟩
end Go.Proofs.YtfhcpniibiobgaaDoor.Qe
