/- Several texts, joined. -/
import Derived.Test.YtfhcpniibiobgaaDoorQfx
namespace Go.Proofs.YtfhcpniibiobgaaDoor.Qf
open Go.RowKit Go.Proofs.YtfhcpniibiobgaaDoorW.PrintWords Go.Proofs.YtfhcpniibiobgaaDoorW.PrintLast Go.Proofs.YtfhcpniibiobgaaDoorW.PrintMore
open Hs (CB CL at_L at_B infoB infoL R_of_blk)

theorem w64_in (n : Int) (h : -9223372036854775808 ≤ n ∧ n ≤ 9223372036854775807) : wrap64 n = n := by unfold wrap64; omega
/-- A value of our hash function, as an interface holds it. -/
abbrev toyV (a0 a1 a2 a3 a4 a5 : Int) : Value := .iface 90 (.agg #[.int .i64 a0, .int .i64 a1, .int .i64 a2, .int .u64 a3, .int .u64 a4, .int .u64 a5])
theorem meth_hc (a0 a1 a2 a3 a4 a5 : Int) (W : World) : (method 304 90 (.agg #[.int .i64 a0, .int .i64 a1, .int .i64 a2, .int .u64 a3, .int .u64 a4, .int .u64 a5]) "HashChildren").run Tryd.prog W = .ok (53, .agg #[.int .i64 a0, .int .i64 a1, .int .i64 a2, .int .u64 a3, .int .u64 a4, .int .u64 a5]) W := by kernel_rfl
theorem meth_size (a0 a1 a2 a3 a4 a5 : Int) (W : World) : (method 304 90 (.agg #[.int .i64 a0, .int .i64 a1, .int .i64 a2, .int .u64 a3, .int .u64 a4, .int .u64 a5]) "Size").run Tryd.prog W = .ok (138, .agg #[.int .i64 a0, .int .i64 a1, .int .i64 a2, .int .u64 a3, .int .u64 a4, .int .u64 a5]) W := by kernel_rfl
/-- Hashing up, bit by bit. -/
def chainI (a0 a1 a2 a3 a4 a5 : Int) (ix : Int) : List (List Int) → List Int → Nat → Option (List Int)
  | [], s, _ => some s
  | h :: t, s, i => (if Go.bits .and .u64 (ix / 2 ^ min i 64) 1 = 0 then impl_toy_HashChildren.f a0 a1 a2 a3 a4 a5 s h else impl_toy_HashChildren.f a0 a1 a2 a3 a4 a5 h s).bind fun s' => chainI a0 a1 a2 a3 a4 a5 ix t s' (i + 1)

set_option maxHeartbeats 1000000 in
set_option maxRecDepth 100000 in
theorem chainInner_calls (a0 a1 a2 a3 a4 a5 ix : Int) (A1 : Option Addr) (c1 : Nat) (s : List Int) (A2 : Option Addr) (c2 : Nat) (l : List (List Int)) (r : List Int) (w : World) (hs : CB w A1 s) (hsc : s.length ≤ c1) (hl : CL w A2 l) (hll : l.length ≤ 5864062014805) (h : chainI a0 a1 a2 a3 a4 a5 ix l s 0 = some r) :
    Calls Tryd.prog 95 #[toyV a0 a1 a2 a3 a4 a5, .slice A1 s.length c1, .slice A2 l.length c2, .int .u64 ix] w fun e w' => ∃ A c, e = .returned (.slice A r.length c) ∧ r.length ≤ c ∧ CB w' A r ∧ Below w.heap.size w w' := by
  have HS := Aside0.mk hs
  have HL := Aside0.mk hl
  have HH := Aside0.mk h
  clear hs hl h
  have hm := meth_hc a0 a1 a2 a3 a4 a5
  go_enter Tryd.func95, Tryd.ntmps95
  go_wp2
  (try simp only [Act.put, List.setIfInBounds_toArray, List.set_cons_zero, List.set_cons_succ])
  go_loopg [1, 13] l.length (fun kq v1 v13 wr => ∃ (j : Nat) (s' : List Int) (A' : Option Addr) (c' : Nat), j + kq = l.length ∧ v13 = .int .i64 (j : Nat) ∧ v1 = .slice A' s'.length c' ∧ Aside0 (s'.length ≤ c') ∧ Aside0 (CB wr A' s') ∧ Aside0 (CL wr A2 l) ∧ Aside0 (chainI a0 a1 a2 a3 a4 a5 ix (l.drop j) s' j = some r) ∧ Aside0 (Below w.heap.size w wr))
  case atStart => exact ⟨0, s, A1, c1, by omega, rfl, rfl, ⟨hsc⟩, HS, HL, HH, ⟨Below.refl _ _⟩⟩
  case round =>
    clear HS HL HH
    obtain ⟨j, s', A', c', hj, rfl, rfl, HSC, HS, HL, HH, HB⟩ := hrel
    by_cases hlt : j < l.length
    · obtain ⟨ad, Ah, ch, ead, hx, hlh, hCh⟩ := at_L HL.out j hlt
      cases ead
      have hd : l.drop j = l.getD j [] :: l.drop (j + 1) := by
        rw [List.drop_eq_getElem_cons hlt, List.getD_eq_getElem?_getD, List.getElem?_eq_getElem hlt]; rfl
      have hh := HH.out
      rw [hd] at hh
      generalize l.getD j [] = hsh at hh hx hlh hCh
      have HCh := Aside0.mk hCh
      have HLh := Aside0.mk hlh
      simp only [chainI] at hh
      obtain ⟨s2, hs2, hh2⟩ := Option.bind_eq_some_iff.mp hh
      have HH2 := Aside0.mk hh2
      clear hd hh hh2
      by_cases hbit : Go.bits .and .u64 (ix / 2 ^ min j 64) 1 = 0
      · rw [if_pos hbit] at hs2
        have HS2 := Aside0.mk hs2
        clear hs2
        have hb2 : (Go.bits .and .u64 (ix / 2 ^ min j 64) 1 == 0) = true := by rw [hbit]; rfl
        clear hbit
        go_wp2_with (go_at_call 53; (with_reducible refine (impl_toy_HashChildren.calls a0 a1 a2 a3 a4 a5 _ _ s' _ _ hsh s2 _ HS.out HSC.out HCh.out HLh.out HS2.out).mono ?_); rintro e w3 ⟨v3, rfl, hR3, hb3⟩; obtain ⟨A3, c3, rfl, hl3, hC3⟩ := Kd.R_reads hR3; have HC3 := Aside0.mk hC3; have HL3 := Aside0.mk hl3; have HB3 := Aside0.mk hb3; clear hR3 hC3 hl3 hb3)
        go_roundg (l.length - (j + 1))
        case measure => omega
        case rel => exact ⟨j + 1, s2, _, _, by omega, by go_num, rfl, HL3, HC3, ⟨Kd.C_below HL.out HB3.out⟩, HH2, ⟨below_then HB.out HB.out.size HB3.out⟩⟩
      · rw [if_neg hbit] at hs2
        have HS2 := Aside0.mk hs2
        clear hs2
        have hb2 : (Go.bits .and .u64 (ix / 2 ^ min j 64) 1 == 0) = false := by simpa using hbit
        clear hbit
        go_wp2_with (go_at_call 53; (with_reducible refine (impl_toy_HashChildren.calls a0 a1 a2 a3 a4 a5 _ _ hsh _ _ s' s2 _ HCh.out HLh.out HS.out HSC.out HS2.out).mono ?_); rintro e w3 ⟨v3, rfl, hR3, hb3⟩; obtain ⟨A3, c3, rfl, hl3, hC3⟩ := Kd.R_reads hR3; have HC3 := Aside0.mk hC3; have HL3 := Aside0.mk hl3; have HB3 := Aside0.mk hb3; clear hR3 hC3 hl3 hb3)
        go_roundg (l.length - (j + 1))
        case measure => omega
        case rel => exact ⟨j + 1, s2, _, _, by omega, by go_num, rfl, HL3, HC3, ⟨Kd.C_below HL.out HB3.out⟩, HH2, ⟨below_then HB.out HB.out.size HB3.out⟩⟩
    · obtain rfl : j = l.length := by omega
      have hh := HH.out
      rw [List.drop_length] at hh
      obtain rfl := Option.some.inj hh
      clear hh
      go_wp2
      go_ret
      exact ⟨_, _, rfl, HSC.out, HS.out, HB.out⟩

/-- Hashing up along a border: the others to the left. -/
def chainB (a0 a1 a2 a3 a4 a5 : Int) : List (List Int) → List Int → Option (List Int)
  | [], s => some s
  | h :: t, s => (impl_toy_HashChildren.f a0 a1 a2 a3 a4 a5 h s).bind fun s' => chainB a0 a1 a2 a3 a4 a5 t s'

set_option maxHeartbeats 1000000 in
set_option maxRecDepth 100000 in
theorem chainBorder_calls (a0 a1 a2 a3 a4 a5 : Int) (A1 : Option Addr) (c1 : Nat) (s : List Int) (A2 : Option Addr) (c2 : Nat) (l : List (List Int)) (r : List Int) (w : World) (hs : CB w A1 s) (hsc : s.length ≤ c1) (hl : CL w A2 l) (hll : l.length ≤ 5864062014805) (h : chainB a0 a1 a2 a3 a4 a5 l s = some r) :
    Calls Tryd.prog 91 #[toyV a0 a1 a2 a3 a4 a5, .slice A1 s.length c1, .slice A2 l.length c2] w fun e w' => ∃ A c, e = .returned (.slice A r.length c) ∧ r.length ≤ c ∧ CB w' A r ∧ Below w.heap.size w w' := by
  have HS := Aside0.mk hs
  have HL := Aside0.mk hl
  have HH := Aside0.mk h
  clear hs hl h
  have hm := meth_hc a0 a1 a2 a3 a4 a5
  go_enter Tryd.func91, Tryd.ntmps91
  go_wp2
  (try simp only [Act.put, List.setIfInBounds_toArray, List.set_cons_zero, List.set_cons_succ])
  go_loopg [1, 11] l.length (fun kq v1 v13 wr => ∃ (j : Nat) (s' : List Int) (A' : Option Addr) (c' : Nat), j + kq = l.length ∧ v13 = .int .i64 (j : Nat) ∧ v1 = .slice A' s'.length c' ∧ Aside0 (s'.length ≤ c') ∧ Aside0 (CB wr A' s') ∧ Aside0 (CL wr A2 l) ∧ Aside0 (chainB a0 a1 a2 a3 a4 a5 (l.drop j) s' = some r) ∧ Aside0 (Below w.heap.size w wr))
  case atStart => exact ⟨0, s, A1, c1, by omega, rfl, rfl, ⟨hsc⟩, HS, HL, HH, ⟨Below.refl _ _⟩⟩
  case round =>
    clear HS HL HH
    obtain ⟨j, s', A', c', hj, rfl, rfl, HSC, HS, HL, HH, HB⟩ := hrel
    by_cases hlt : j < l.length
    · obtain ⟨ad, Ah, ch, ead, hx, hlh, hCh⟩ := at_L HL.out j hlt
      cases ead
      have hd : l.drop j = l.getD j [] :: l.drop (j + 1) := by
        rw [List.drop_eq_getElem_cons hlt, List.getD_eq_getElem?_getD, List.getElem?_eq_getElem hlt]; rfl
      have hh := HH.out
      rw [hd] at hh
      generalize l.getD j [] = hsh at hh hx hlh hCh
      have HCh := Aside0.mk hCh
      have HLh := Aside0.mk hlh
      simp only [chainB] at hh
      obtain ⟨s2, hs2, hh2⟩ := Option.bind_eq_some_iff.mp hh
      have HH2 := Aside0.mk hh2
      have HS2 := Aside0.mk hs2
      clear hd hh hh2 hs2
      go_wp2_with (go_at_call 53; (with_reducible refine (impl_toy_HashChildren.calls a0 a1 a2 a3 a4 a5 _ _ hsh _ _ s' s2 _ HCh.out HLh.out HS.out HSC.out HS2.out).mono ?_); rintro e w3 ⟨v3, rfl, hR3, hb3⟩; obtain ⟨A3, c3, rfl, hl3, hC3⟩ := Kd.R_reads hR3; have HC3 := Aside0.mk hC3; have HL3 := Aside0.mk hl3; have HB3 := Aside0.mk hb3; clear hR3 hC3 hl3 hb3)
      go_roundg (l.length - (j + 1))
      case measure => omega
      case rel => exact ⟨j + 1, s2, _, _, by omega, by go_num, rfl, HL3, HC3, ⟨Kd.C_below HL.out HB3.out⟩, HH2, ⟨below_then HB.out HB.out.size HB3.out⟩⟩
    · obtain rfl : j = l.length := by omega
      have hh := HH.out
      rw [List.drop_length] at hh
      obtain rfl := Option.some.inj hh
      clear hh
      go_wp2
      go_ret
      exact ⟨_, _, rfl, HSC.out, HS.out, HB.out⟩

/-- What bytes.Equal and the reference's comparison say. -/
abbrev sameB (l m : List Int) : Bool := (strOfNums l).toList == (strOfNums m).toList

set_option maxHeartbeats 1000000 in
set_option maxRecDepth 100000 in
theorem errors_New.err (s : ByteArray) (w : World) : Calls Tryd.prog 87 #[.string s] w fun e w' => ∃ x, e = .returned (.iface 175 (.pointer (some x))) ∧ Below w.heap.size w w' := by
  go_enter Tryd.func87, Tryd.ntmps87
  go_wp2
  go_ret
  exact ⟨_, rfl, by repeat (first | (with_reducible first | exact Below.refl _ _ | apply below_alloc | apply pw_below_drewN | apply below_drew1) | exact Below.refl _ _)⟩

set_option maxHeartbeats 1000000 in
set_option maxRecDepth 100000 in
theorem match_yes (A1 : Option Addr) (c1 : Nat) (l1 : List Int) (A2 : Option Addr) (c2 : Nat) (l2 : List Int) (w : World) (h1 : CB w A1 l1) (hc1 : l1.length ≤ c1) (h2 : CB w A2 l2) (hc2 : l2.length ≤ c2) (heq : sameB l1 l2 = true) :
    Calls Tryd.prog 92 #[.slice A1 l1.length c1, .slice A2 l2.length c2] w fun e w' => e = .returned .nilIface ∧ Below w.heap.size w w' := by
  have HE := Aside0.mk (show bytes_Equal.f l1 l2 = some true from congrArg some heq)
  have H1 := Aside0.mk h1
  have H2 := Aside0.mk h2
  clear h1 h2 heq
  go_enter Tryd.func92, Tryd.ntmps92
  go_wp2_with (go_at_call 102; (with_reducible refine (bytes_Equal.calls _ _ l1 _ _ l2 true _ H1.out hc1 H2.out hc2 HE.out).mono ?_); rintro e w3 ⟨rfl, hd⟩; have HD := Aside0.mk hd.below; clear hd)
  go_ret
  exact ⟨rfl, HD.out⟩
set_option maxHeartbeats 1000000 in
set_option maxRecDepth 100000 in
theorem match_no (A1 : Option Addr) (c1 : Nat) (l1 : List Int) (A2 : Option Addr) (c2 : Nat) (l2 : List Int) (w : World) (h1 : CB w A1 l1) (hc1 : l1.length ≤ c1) (h2 : CB w A2 l2) (hc2 : l2.length ≤ c2) (heq : sameB l1 l2 = false) :
    Calls Tryd.prog 92 #[.slice A1 l1.length c1, .slice A2 l2.length c2] w fun e w' => e = .returned (.iface 156 (.agg #[.slice A2 l2.length c2, .slice A1 l1.length c1])) ∧ Below w.heap.size w w' := by
  have HE := Aside0.mk (show bytes_Equal.f l1 l2 = some false from congrArg some heq)
  have H1 := Aside0.mk h1
  have H2 := Aside0.mk h2
  clear h1 h2 heq
  go_enter Tryd.func92, Tryd.ntmps92
  go_wp2_with (go_at_call 102; (with_reducible refine (bytes_Equal.calls _ _ l1 _ _ l2 false _ H1.out hc1 H2.out hc2 HE.out).mono ?_); rintro e w3 ⟨rfl, hd⟩; have HD := Aside0.mk hd.below; clear hd)
  go_ret
  exact ⟨rfl, HD.out⟩

set_option maxHeartbeats 1000000 in
set_option maxRecDepth 100000 in
theorem verdict_nil (w : World) : Calls Tryd.prog 59 #[.nilIface] w fun e w' => e = .returned (.tuple #[.int .i64 0, .slice none 0 0]) ∧ Below w.heap.size w w' := by
  go_enter Tryd.func59, Tryd.ntmps59
  go_wp2
  go_ret2
  exact ⟨rfl, Below.refl _ _⟩
theorem ta_no (x : Addr) (W : World) : (Instr.typeAssert (.iface 175 (.pointer (some x))) 103 156 true).run Tryd.prog W = .ok (.tuple #[.agg #[.slice none 0 0, .slice none 0 0], .bool false]) W := by kernel_rfl
theorem ta_yes (v : Value) (W : World) : (Instr.typeAssert (.iface 156 v) 103 156 true).run Tryd.prog W = .ok (.tuple #[v, .bool true]) W := by kernel_rfl
set_option maxHeartbeats 1000000 in
set_option maxRecDepth 100000 in
theorem verdict_err (x : Addr) (w : World) : Calls Tryd.prog 59 #[.iface 175 (.pointer (some x))] w fun e w' => e = .returned (.tuple #[.int .i64 2, .slice none 0 0]) ∧ Below w.heap.size w w' := by
  have hta := ta_no x
  go_enter Tryd.func59, Tryd.ntmps59
  go_wp2
  go_ret2
  exact ⟨rfl, by repeat (first | (with_reducible first | exact Below.refl _ _ | apply below_alloc | refine Below.setCell ?_ (by simp) _) | exact Below.refl _ _)⟩
set_option maxHeartbeats 1000000 in
set_option maxRecDepth 100000 in
theorem verdict_other (A1 : Option Addr) (c1 n1 : Nat) (A2 : Option Addr) (c2 : Nat) (l2 : List Int) (w : World) (h2 : CB w A2 l2) (hl : l2.length ≤ 140737488351232) :
    Calls Tryd.prog 59 #[.iface 156 (.agg #[.slice A1 n1 c1, .slice A2 l2.length c2])] w fun e w' => ∃ v, e = .returned (.tuple #[.int .i64 1, v]) ∧ Kd.R (Kd.int .u8) 5 w' w.heap.size (fun _ => True) v l2 ∧ Below w.heap.size w w' := by
  have H2 := Aside0.mk h2
  clear h2
  have hta := ta_yes (.agg #[.slice A1 n1 c1, .slice A2 l2.length c2])
  go_enter Tryd.func59, Tryd.ntmps59
  go_wp2_with (first
    | ((with_reducible refine gate_dst (N := 14) rfl ?_); refine Kd.R_lit (Kd.int .u8) _ 5 ?hg (N := 14) ?hd (xs := ([] : List Int)) (inner := []) (ok := fun _ => True) (okp := fun _ => True) ?hr ?hp (fun _ hk => hk) trivial (Below.refl _ _) (Nat.le_refl _) (by simp) ?_; (case hd => rfl); (case hg => rfl); (case hr => first | (go_simp; done) | (go_simp; rfl)); (case hp => exact (Reps.none _ _)); intro v3 w3 ho3 hb3 hg_ hnew_; clear hg_ hnew_; have HO := Aside0.mk (Kd.R_lower (base' := w.heap.size) ho3 (below_size (below_alloc (Below.refl _ _) _))); have BK : Aside0 (w3.heap[w.heap.size]? = some (.cells #[.slice A1 n1 c1, .slice A2 l2.length c2] 156 (0, 0))) := ⟨blk_below (heap_alloc_new w _) hb3⟩; have HB := Aside0.mk (below_step (below_alloc (Below.refl w.heap.size w) _) hb3); clear ho3 hb3; have hc1 : w3.cell? ⟨w.heap.size, 1, none⟩ = some (.slice A2 l2.length c2) := (blk_cell BK.out 1).trans rfl; have hf1 : w3.frozen? ⟨w.heap.size, 1, none⟩ = false := blk_frozen BK.out 1)
    | ((with_reducible refine gate_builtin (b := .append) (xs := #[.tmp 14, .tmp 16]) rfl ?_); at_builtin; refine Kd.R_append_rows (Kd.int .u8) (w0 := w) w.heap.size rfl (.tmp 14) (.tmp 16) 28 5 (.int .u8 0) 1 rfl Tryd.underlying28 infoB rfl (by decide) (by omega) v3 [] l2 _ _ _ (fun _ => True) (fun _ => False) rfl rfl HO.out (Kd.C_below H2.out HB.out) (fun _ _ h => h) (fun _ h => h.elim) (fun _ _ => trivial) HB.out (below_size HB.out) (by simp; omega) ?_; intro v4 w4 ho hb hg hat; have HO4 := Aside0.mk ho; have HB4 := Aside0.mk hb; clear ho hb hg hat))
  go_ret2
  exact ⟨_, rfl, HO4.out, HB4.out⟩

set_option maxHeartbeats 1000000 in
set_option maxRecDepth 100000 in
theorem root_ok (a0 a1 a2 a3 a4 a5 ix sz : Int) (A1 : Option Addr) (c1 : Nat) (s : List Int) (A2 : Option Addr) (c2 : Nat) (l : List (List Int)) (inner border : Nat) (r1 r : List Int) (w : World) (hs : CB w A1 s) (hsc : s.length ≤ c1) (hl : CL w A2 l) (hlc : l.length ≤ c2) (hll : l.length ≤ 5864062014805) (hlt : ix < sz) (hsz : (s.length : Int) = a1) (hd : proof_decompInclProof.f ix sz = some ((inner : Int), (border : Int))) (hn : l.length = inner + border) (h1 : chainI a0 a1 a2 a3 a4 a5 ix (l.take inner) s 0 = some r1) (h2 : chainB a0 a1 a2 a3 a4 a5 (l.drop inner) r1 = some r) :
    Calls Tryd.prog 107 #[toyV a0 a1 a2 a3 a4 a5, .int .u64 ix, .int .u64 sz, .slice A1 s.length c1, .slice A2 l.length c2] w fun e w' => ∃ A c, e = .returned (.tuple #[.slice A r.length c, .nilIface]) ∧ r.length ≤ c ∧ CB w' A r ∧ Below w.heap.size w w' := by
  have HS := Aside0.mk hs
  have HL := Aside0.mk hl
  have HD := Aside0.mk hd
  have H1 := Aside0.mk h1
  have H2 := Aside0.mk h2
  clear hs hl h1 h2 hd
  have hm := meth_size a0 a1 a2 a3 a4 a5
  have t1 : decide (sz ≤ ix) = false := decide_eq_false (by omega)
  obtain ⟨iL, hiL, hsL⟩ := Option.map_eq_some_iff.1 infoL
  simp only [Prod.mk.injEq] at hsL
  have hcut1 : ∀ W : World, (Instr.slice 25 (.slice A2 l.length c2) none (some (.int .i64 (inner : Int))) none).run Tryd.prog W = .ok (.slice A2 (l.take inner).length c2) W := fun W => by
    have h := cut_to (P := Tryd.prog) 25 28 .i64 Tryd.underlying25 hiL A2 l.length c2 (inner : Int) (by omega) (by omega) hlc W
    rw [Int.toNat_natCast] at h
    rw [show (l.take inner).length = inner by rw [List.length_take]; omega]
    exact h
  have hcut2 : ∀ W : World, (Instr.slice 25 (.slice A2 l.length c2) (some (.int .i64 (inner : Int))) none none).run Tryd.prog W = .ok (.slice (if c2 = inner then A2 else A2.map (·.add (inner * 1))) (l.drop inner).length (c2 - inner)) W := fun W => by
    have h := cut_from (P := Tryd.prog) 25 28 .i64 Tryd.underlying25 hiL 1 hsL.2.1 A2 l.length c2 (inner : Int) (by omega) (by omega) W
    rw [Int.toNat_natCast] at h
    rw [List.length_drop]
    exact h
  clear hiL
  have HT := Aside0.mk (Kd.C_take (m := inner) HL.out (by omega))
  have HR : Aside0 (CL w (if c2 = inner then A2 else A2.map (·.add (inner * 1))) (l.drop inner)) := ⟨Kd.C_drop (m := inner) (c := c2) HL.out (by omega) hlc⟩
  generalize (if c2 = inner then A2 else A2.map (·.add (inner * 1))) = Ax at hcut2 HR
  have HTL : Aside0 ((l.take inner).length = inner) := ⟨by rw [List.length_take]; omega⟩
  have HN := Aside0.mk hn
  have HSZ := Aside0.mk hsz
  have HLT := Aside0.mk hlt
  have HC := Aside0.mk hlc
  have HSC := Aside0.mk hsc
  have HLL := Aside0.mk hll
  clear hn hsz hlt hlc hsc hll hsL
  have HDL : Aside0 ((l.drop inner).length + inner = l.length) := ⟨by rw [List.length_drop]; have := HN.out; omega⟩
  generalize l.take inner = lt at hcut1 HT H1 HTL
  generalize l.drop inner = ld at hcut2 HR H2 HDL
  go_enter Tryd.func107, Tryd.ntmps107
  go_wp2_with (first
    | (go_at_call 138; (with_reducible refine (impl_toy_Size.calls a0 a1 a2 a3 a4 a5 a1 _ rfl).mono ?_); rintro e w1 ⟨rfl, hb⟩; have HB := Aside0.mk hb; clear hb; have HS1 := Aside0.mk (Kd.C_below HS.out HB.out); have HT1 := Aside0.mk (Kd.C_below HT.out HB.out); have HR1 := Aside0.mk (Kd.C_below HR.out HB.out); have t2 : ((s.length : Int) != a1) = false := by rw [HSZ.out]; simp)
    | (go_at_call 93; (with_reducible refine (proof_decompInclProof.calls _ _ _ _ _ HD.out).mono ?_); rintro e w2 ⟨rfl, hb⟩; have HB2 := Aside0.mk (below_then HB.out HB.out.size hb.below); have HS2 := Aside0.mk (Kd.C_below HS.out HB2.out); have HT2 := Aside0.mk (Kd.C_below HT.out HB2.out); have HR2 := Aside0.mk (Kd.C_below HR.out HB2.out); clear hb HB HS1 HT1 HR1; have t3 : ((l.length : Int) != wrap64 ((inner : Int) + (border : Int))) = false := by rw [w64_in _ (by have := HN.out; have := HLL.out; omega), HN.out]; simp)
    | (go_at_call 95; (with_reducible refine (chainInner_calls a0 a1 a2 a3 a4 a5 ix _ _ s _ c2 lt r1 _ HS2.out HSC.out HT2.out (by have := HN.out; have := HLL.out; have := HTL.out; omega) H1.out).mono ?_); rintro e w3 ⟨A3, c3, rfl, hl3, hC3, hb⟩; have HB3 := Aside0.mk (below_then HB2.out HB2.out.size hb); have HR3 := Aside0.mk (Kd.C_below HR.out HB3.out); have HC3 := Aside0.mk hC3; have HL3 := Aside0.mk hl3; clear hC3 hb hl3)
    | (go_at_call 91; (with_reducible refine (chainBorder_calls a0 a1 a2 a3 a4 a5 _ _ r1 _ _ ld r _ HC3.out HL3.out HR3.out (by have := HN.out; have := HLL.out; have := HDL.out; omega) H2.out).mono ?_); rintro e w4 ⟨A4, c4, rfl, hl4, hC4, hb⟩; have HB4 := Aside0.mk (below_then HB3.out HB3.out.size hb); have HC4 := Aside0.mk hC4; have HL4 := Aside0.mk hl4; clear hC4 hb hl4))
  go_ret2
  exact ⟨_, _, rfl, HL4.out, HC4.out, HB4.out⟩

set_option maxHeartbeats 1000000 in
set_option maxRecDepth 100000 in
theorem root_err1 (a0 a1 a2 a3 a4 a5 ix sz : Int) (A1 : Option Addr) (c1 n1 : Nat) (A2 : Option Addr) (c2 n2 : Nat) (hlt : sz ≤ ix) (w : World) :
    Calls Tryd.prog 107 #[toyV a0 a1 a2 a3 a4 a5, .int .u64 ix, .int .u64 sz, .slice A1 n1 c1, .slice A2 n2 c2] w fun e w' => ∃ x, e = .returned (.tuple #[.slice none 0 0, .iface 175 (.pointer (some x))]) ∧ Below w.heap.size w w' := by
  have t1 : decide (sz ≤ ix) = true := decide_eq_true hlt
  go_enter Tryd.func107, Tryd.ntmps107
  go_wp2_with (first
    | (go_at_call 87; (with_reducible refine (errors_New.err _ _).mono ?_); rintro e w3 ⟨x, rfl, hb⟩; have HB3 := Aside0.mk (hb); clear hb))
  go_ret2
  exact ⟨_, rfl, HB3.out⟩

set_option maxHeartbeats 1000000 in
set_option maxRecDepth 100000 in
theorem root_err2 (a0 a1 a2 a3 a4 a5 ix sz : Int) (A1 : Option Addr) (c1 n1 : Nat) (A2 : Option Addr) (c2 n2 : Nat) (hlt : ix < sz) (hsz : (n1 : Int) ≠ a1) (w : World) :
    Calls Tryd.prog 107 #[toyV a0 a1 a2 a3 a4 a5, .int .u64 ix, .int .u64 sz, .slice A1 n1 c1, .slice A2 n2 c2] w fun e w' => ∃ x, e = .returned (.tuple #[.slice none 0 0, .iface 175 (.pointer (some x))]) ∧ Below w.heap.size w w' := by
  have hm := meth_size a0 a1 a2 a3 a4 a5
  have t1 : decide (sz ≤ ix) = false := decide_eq_false (by omega)
  have t2 : ((n1 : Int) != a1) = true := by simpa using hsz
  clear hsz
  go_enter Tryd.func107, Tryd.ntmps107
  go_wp2_with (first
    | (go_at_call 138; (with_reducible refine (impl_toy_Size.calls a0 a1 a2 a3 a4 a5 a1 _ rfl).mono ?_); rintro e w1 ⟨rfl, hb⟩; have HB := Aside0.mk hb; clear hb)
    | (go_at_call 87; (with_reducible refine (errors_New.err _ _).mono ?_); rintro e w3 ⟨x, rfl, hb⟩; have HB3 := Aside0.mk (below_then HB.out HB.out.size hb); clear hb))
  go_ret2
  exact ⟨_, rfl, HB3.out⟩

set_option maxHeartbeats 1000000 in
set_option maxRecDepth 100000 in
theorem root_err3 (a0 a1 a2 a3 a4 a5 ix sz : Int) (A1 : Option Addr) (c1 n1 : Nat) (A2 : Option Addr) (c2 n2 : Nat) (inner border : Nat) (hlt : ix < sz) (hsz : (n1 : Int) = a1) (hd : proof_decompInclProof.f ix sz = some ((inner : Int), (border : Int))) (hin : inner ≤ 64 ∧ border ≤ 64) (hn : n2 ≠ inner + border) (w : World) :
    Calls Tryd.prog 107 #[toyV a0 a1 a2 a3 a4 a5, .int .u64 ix, .int .u64 sz, .slice A1 n1 c1, .slice A2 n2 c2] w fun e w' => ∃ x, e = .returned (.tuple #[.slice none 0 0, .iface 175 (.pointer (some x))]) ∧ Below w.heap.size w w' := by
  have HD := Aside0.mk hd
  clear hd
  have hm := meth_size a0 a1 a2 a3 a4 a5
  have t1 : decide (sz ≤ ix) = false := decide_eq_false (by omega)
  have t2 : ((n1 : Int) != a1) = false := by simpa using hsz
  have t3 : ((n2 : Int) != (inner : Int) + (border : Int)) = true := by simpa using (show ¬ (n2 : Int) = inner + border by omega)
  clear hsz hn
  go_enter Tryd.func107, Tryd.ntmps107
  go_wp2_with (first
    | (go_at_call 138; (with_reducible refine (impl_toy_Size.calls a0 a1 a2 a3 a4 a5 a1 _ rfl).mono ?_); rintro e w1 ⟨rfl, hb⟩; have HB := Aside0.mk hb; clear hb)
    | (go_at_call 93; (with_reducible refine (proof_decompInclProof.calls _ _ _ _ _ HD.out).mono ?_); rintro e w2 ⟨rfl, hb⟩; have HB2 := Aside0.mk (below_then HB.out HB.out.size hb.below); clear hb HB; have HB := HB2; clear HB2)
    | (go_at_call 87; (with_reducible refine (errors_New.err _ _).mono ?_); rintro e w3 ⟨x, rfl, hb⟩; have HB3 := Aside0.mk (below_then HB.out HB.out.size hb); clear hb))
  go_ret2
  exact ⟨_, rfl, HB3.out⟩

set_option maxHeartbeats 1000000 in
set_option maxRecDepth 100000 in
/-- VerifyInclusion, when the root cannot be found. -/
theorem vi_err (a0 a1 a2 a3 a4 a5 ix sz : Int) (A1 : Option Addr) (c1 n1 : Nat) (A2 : Option Addr) (c2 n2 : Nat) (A3 : Option Addr) (c3 n3 : Nat) (w : World)
    (hc : Calls Tryd.prog 107 #[toyV a0 a1 a2 a3 a4 a5, .int .u64 ix, .int .u64 sz, .slice A1 n1 c1, .slice A2 n2 c2] w fun e w' => ∃ x, e = .returned (.tuple #[.slice none 0 0, .iface 175 (.pointer (some x))]) ∧ Below w.heap.size w w') :
    Calls Tryd.prog 78 #[toyV a0 a1 a2 a3 a4 a5, .int .u64 ix, .int .u64 sz, .slice A1 n1 c1, .slice A2 n2 c2, .slice A3 n3 c3] w fun e w' => ∃ x, e = .returned (.iface 175 (.pointer (some x))) ∧ Below w.heap.size w w' := by
  have HC := Aside0.mk hc
  clear hc
  go_enter Tryd.func78, Tryd.ntmps78
  go_wp2_with (first
    | (go_at_call 107; (with_reducible refine HC.out.mono ?_); rintro e w3 ⟨x, rfl, hb⟩; have HB3 := Aside0.mk hb; clear hb))
  go_ret
  exact ⟨_, rfl, HB3.out⟩

set_option maxHeartbeats 1000000 in
set_option maxRecDepth 100000 in
/-- VerifyInclusion, when the root is found and is the given one. -/
theorem vi_yes (a0 a1 a2 a3 a4 a5 ix sz : Int) (A1 : Option Addr) (c1 n1 : Nat) (A2 : Option Addr) (c2 n2 : Nat) (A3 : Option Addr) (c3 : Nat) (l3 r : List Int) (w : World) (h3 : CB w A3 l3) (hc3 : l3.length ≤ c3) (heq : sameB r l3 = true)
    (hc : Calls Tryd.prog 107 #[toyV a0 a1 a2 a3 a4 a5, .int .u64 ix, .int .u64 sz, .slice A1 n1 c1, .slice A2 n2 c2] w fun e w' => ∃ A c, e = .returned (.tuple #[.slice A r.length c, .nilIface]) ∧ r.length ≤ c ∧ CB w' A r ∧ Below w.heap.size w w') :
    Calls Tryd.prog 78 #[toyV a0 a1 a2 a3 a4 a5, .int .u64 ix, .int .u64 sz, .slice A1 n1 c1, .slice A2 n2 c2, .slice A3 l3.length c3] w fun e w' => e = .returned .nilIface ∧ Below w.heap.size w w' := by
  have HC := Aside0.mk hc
  have H3 := Aside0.mk h3
  clear hc h3
  go_enter Tryd.func78, Tryd.ntmps78
  go_wp2_with (first
    | (go_at_call 107; (with_reducible refine HC.out.mono ?_); rintro e w3 ⟨A4, c4, rfl, hl4, hC4, hb⟩; have HB3 := Aside0.mk hb; have HC4 := Aside0.mk hC4; have HL4 := Aside0.mk hl4; clear hb hC4 hl4)
    | (go_at_call 92; (with_reducible refine (match_yes _ _ r _ _ l3 _ HC4.out HL4.out (Kd.C_below H3.out HB3.out) hc3 heq).mono ?_); rintro e w4 ⟨rfl, hb⟩; have HB4 := Aside0.mk (below_then HB3.out HB3.out.size hb); clear hb))
  go_ret
  exact ⟨rfl, HB4.out⟩

set_option maxHeartbeats 1000000 in
set_option maxRecDepth 100000 in
/-- VerifyInclusion, when the root is found and is not the given one. -/
theorem vi_no (a0 a1 a2 a3 a4 a5 ix sz : Int) (A1 : Option Addr) (c1 n1 : Nat) (A2 : Option Addr) (c2 n2 : Nat) (A3 : Option Addr) (c3 : Nat) (l3 r : List Int) (w : World) (h3 : CB w A3 l3) (hc3 : l3.length ≤ c3) (heq : sameB r l3 = false)
    (hc : Calls Tryd.prog 107 #[toyV a0 a1 a2 a3 a4 a5, .int .u64 ix, .int .u64 sz, .slice A1 n1 c1, .slice A2 n2 c2] w fun e w' => ∃ A c, e = .returned (.tuple #[.slice A r.length c, .nilIface]) ∧ r.length ≤ c ∧ CB w' A r ∧ Below w.heap.size w w') :
    Calls Tryd.prog 78 #[toyV a0 a1 a2 a3 a4 a5, .int .u64 ix, .int .u64 sz, .slice A1 n1 c1, .slice A2 n2 c2, .slice A3 l3.length c3] w fun e w' => ∃ A c, e = .returned (.iface 156 (.agg #[.slice A3 l3.length c3, .slice A r.length c])) ∧ r.length ≤ c ∧ CB w' A r ∧ Below w.heap.size w w' := by
  have HC := Aside0.mk hc
  have H3 := Aside0.mk h3
  clear hc h3
  go_enter Tryd.func78, Tryd.ntmps78
  go_wp2_with (first
    | (go_at_call 107; (with_reducible refine HC.out.mono ?_); rintro e w3 ⟨A4, c4, rfl, hl4, hC4, hb⟩; have HB3 := Aside0.mk hb; have HC4 := Aside0.mk hC4; have HL4 := Aside0.mk hl4; clear hb hC4 hl4)
    | (go_at_call 92; (with_reducible refine (match_no _ _ r _ _ l3 _ HC4.out HL4.out (Kd.C_below H3.out HB3.out) hc3 heq).mono ?_); rintro e w4 ⟨rfl, hb⟩; have HB4 := Aside0.mk (below_then HB3.out HB3.out.size hb); have HC5 := Aside0.mk (Kd.C_below HC4.out hb); clear hb))
  go_ret
  exact ⟨_, _, rfl, HL4.out, HC5.out, HB4.out⟩
end Go.Proofs.YtfhcpniibiobgaaDoor.Qf
namespace Go.Proofs.YtfhcpniibiobgaaDoor.Qf
open Go.RowKit Go.Proofs.YtfhcpniibiobgaaDoorW.PrintWords Go.Proofs.YtfhcpniibiobgaaDoorW.PrintLast Go.Proofs.YtfhcpniibiobgaaDoorW.PrintMore
open Hs (CB CL at_L at_B infoB infoL R_of_blk)

/-- Hashing up, with those to the left alone. -/
def chainR (a0 a1 a2 a3 a4 a5 : Int) (ix : Int) : List (List Int) → List Int → Nat → Option (List Int)
  | [], s, _ => some s
  | h :: t, s, i => (if Go.bits .and .u64 (ix / 2 ^ min i 64) 1 = 1 then impl_toy_HashChildren.f a0 a1 a2 a3 a4 a5 h s else some s).bind fun s' => chainR a0 a1 a2 a3 a4 a5 ix t s' (i + 1)

set_option maxHeartbeats 1000000 in
set_option maxRecDepth 100000 in
theorem chainRight_calls (a0 a1 a2 a3 a4 a5 ix : Int) (A1 : Option Addr) (c1 : Nat) (s : List Int) (A2 : Option Addr) (c2 : Nat) (l : List (List Int)) (r : List Int) (w : World) (hs : CB w A1 s) (hsc : s.length ≤ c1) (hl : CL w A2 l) (hll : l.length ≤ 5864062014805) (h : chainR a0 a1 a2 a3 a4 a5 ix l s 0 = some r) :
    Calls Tryd.prog 94 #[toyV a0 a1 a2 a3 a4 a5, .slice A1 s.length c1, .slice A2 l.length c2, .int .u64 ix] w fun e w' => ∃ A c, e = .returned (.slice A r.length c) ∧ r.length ≤ c ∧ CB w' A r ∧ Below w.heap.size w w' := by
  have HS := Aside0.mk hs
  have HL := Aside0.mk hl
  have HH := Aside0.mk h
  clear hs hl h
  have hm := meth_hc a0 a1 a2 a3 a4 a5
  go_enter Tryd.func94, Tryd.ntmps94
  go_wp2
  (try simp only [Act.put, List.setIfInBounds_toArray, List.set_cons_zero, List.set_cons_succ])
  go_loopg [1, 13] l.length (fun kq v1 v13 wr => ∃ (j : Nat) (s' : List Int) (A' : Option Addr) (c' : Nat), j + kq = l.length ∧ v13 = .int .i64 (j : Nat) ∧ v1 = .slice A' s'.length c' ∧ Aside0 (s'.length ≤ c') ∧ Aside0 (CB wr A' s') ∧ Aside0 (CL wr A2 l) ∧ Aside0 (chainR a0 a1 a2 a3 a4 a5 ix (l.drop j) s' j = some r) ∧ Aside0 (Below w.heap.size w wr))
  case atStart => exact ⟨0, s, A1, c1, by omega, rfl, rfl, ⟨hsc⟩, HS, HL, HH, ⟨Below.refl _ _⟩⟩
  case round =>
    clear HS HL HH
    obtain ⟨j, s', A', c', hj, rfl, rfl, HSC, HS, HL, HH, HB⟩ := hrel
    by_cases hlt : j < l.length
    · obtain ⟨ad, Ah, ch, ead, hx, hlh, hCh⟩ := at_L HL.out j hlt
      cases ead
      have hd : l.drop j = l.getD j [] :: l.drop (j + 1) := by
        rw [List.drop_eq_getElem_cons hlt, List.getD_eq_getElem?_getD, List.getElem?_eq_getElem hlt]; rfl
      have hh := HH.out
      rw [hd] at hh
      generalize l.getD j [] = hsh at hh hx hlh hCh
      have HCh := Aside0.mk hCh
      have HLh := Aside0.mk hlh
      simp only [chainR] at hh
      obtain ⟨s2, hs2, hh2⟩ := Option.bind_eq_some_iff.mp hh
      have HH2 := Aside0.mk hh2
      clear hd hh hh2
      by_cases hbit : Go.bits .and .u64 (ix / 2 ^ min j 64) 1 = 1
      · rw [if_pos hbit] at hs2
        have HS2 := Aside0.mk hs2
        clear hs2
        have hb2 : (Go.bits .and .u64 (ix / 2 ^ min j 64) 1 == 1) = true := by rw [hbit]; rfl
        clear hbit
        go_wp2_with (go_at_call 53; (with_reducible refine (impl_toy_HashChildren.calls a0 a1 a2 a3 a4 a5 _ _ hsh _ _ s' s2 _ HCh.out HLh.out HS.out HSC.out HS2.out).mono ?_); rintro e w3 ⟨v3, rfl, hR3, hb3⟩; obtain ⟨A3, c3, rfl, hl3, hC3⟩ := Kd.R_reads hR3; have HC3 := Aside0.mk hC3; have HL3 := Aside0.mk hl3; have HB3 := Aside0.mk hb3; clear hR3 hC3 hl3 hb3)
        go_roundg (l.length - (j + 1))
        case measure => omega
        case rel => exact ⟨j + 1, s2, _, _, by omega, by go_num, rfl, HL3, HC3, ⟨Kd.C_below HL.out HB3.out⟩, HH2, ⟨below_then HB.out HB.out.size HB3.out⟩⟩
      · rw [if_neg hbit] at hs2
        obtain rfl := Option.some.inj hs2
        clear hs2
        have hb2 : (Go.bits .and .u64 (ix / 2 ^ min j 64) 1 == 1) = false := by simpa using hbit
        clear hbit
        go_wp2
        go_roundg (l.length - (j + 1))
        case measure => omega
        case rel => exact ⟨j + 1, s', A', c', by omega, by go_num, rfl, HSC, HS, HL, HH2, HB⟩
    · obtain rfl : j = l.length := by omega
      have hh := HH.out
      rw [List.drop_length] at hh
      obtain rfl := Option.some.inj hh
      clear hh
      go_wp2
      go_ret
      exact ⟨_, _, rfl, HSC.out, HS.out, HB.out⟩

set_option maxHeartbeats 1000000 in
set_option maxRecDepth 100000 in
theorem vc_err1 (a0 a1 a2 a3 a4 a5 : Int) (s1 s2 : Nat) (A : Option Addr) (n c : Nat) (A1 : Option Addr) (n1 c1 : Nat) (A2 : Option Addr) (n2 c2 : Nat) (h : s2 < s1) (w : World) :
    Calls Tryd.prog 60 #[toyV a0 a1 a2 a3 a4 a5, .int .u64 (s1 : Nat), .int .u64 (s2 : Nat), .slice A n c, .slice A1 n1 c1, .slice A2 n2 c2] w fun e w' => ∃ x, e = .returned (.iface 175 (.pointer (some x))) ∧ Below w.heap.size w w' := by
  have t1 : decide (s2 < s1) = true := decide_eq_true (by omega)
  have t1i : decide ((s2 : Int) < (s1 : Int)) = true := decide_eq_true (by omega)
  clear h
  go_enter Tryd.func60, Tryd.ntmps60
  go_wp2_with (go_at_call 87; (with_reducible refine (errors_New.err _ _).mono ?_); rintro e w3 ⟨x, rfl, hb⟩; have HB := Aside0.mk hb; clear hb)
  go_ret
  exact ⟨_, rfl, HB.out⟩
set_option maxHeartbeats 1000000 in
set_option maxRecDepth 100000 in
theorem vc_err2 (a0 a1 a2 a3 a4 a5 : Int) (s1 s2 : Nat) (A : Option Addr) (n c : Nat) (A1 : Option Addr) (n1 c1 : Nat) (A2 : Option Addr) (n2 c2 : Nat) (h : s1 = s2) (hn : 0 < n) (w : World) :
    Calls Tryd.prog 60 #[toyV a0 a1 a2 a3 a4 a5, .int .u64 (s1 : Nat), .int .u64 (s2 : Nat), .slice A n c, .slice A1 n1 c1, .slice A2 n2 c2] w fun e w' => ∃ x, e = .returned (.iface 175 (.pointer (some x))) ∧ Below w.heap.size w w' := by
  have t1 : decide (s2 < s1) = false := decide_eq_false (by omega)
  have t1i : decide ((s2 : Int) < (s1 : Int)) = false := decide_eq_false (by omega)
  have t2 : (s1 == s2) = true := beq_iff_eq.2 (by omega)
  have t2i : ((s1 : Int) == (s2 : Int)) = true := beq_iff_eq.2 (by omega)
  have g1 : decide (0 < n) = true := decide_eq_true (by omega)
  have g1i : decide ((0 : Int) < (n : Int)) = true := decide_eq_true (by omega)
  clear h hn
  go_enter Tryd.func60, Tryd.ntmps60
  go_wp2_with (go_at_call 87; (with_reducible refine (errors_New.err _ _).mono ?_); rintro e w3 ⟨x, rfl, hb⟩; have HB := Aside0.mk hb; clear hb)
  go_ret
  exact ⟨_, rfl, HB.out⟩
set_option maxHeartbeats 1000000 in
set_option maxRecDepth 100000 in
theorem vc_err3 (a0 a1 a2 a3 a4 a5 : Int) (s1 s2 : Nat) (A : Option Addr) (n c : Nat) (A1 : Option Addr) (n1 c1 : Nat) (A2 : Option Addr) (n2 c2 : Nat) (h : s1 = 0) (h2 : s1 < s2) (hn : 0 < n) (w : World) :
    Calls Tryd.prog 60 #[toyV a0 a1 a2 a3 a4 a5, .int .u64 (s1 : Nat), .int .u64 (s2 : Nat), .slice A n c, .slice A1 n1 c1, .slice A2 n2 c2] w fun e w' => ∃ x, e = .returned (.iface 175 (.pointer (some x))) ∧ Below w.heap.size w w' := by
  have t1 : decide (s2 < s1) = false := decide_eq_false (by omega)
  have t1i : decide ((s2 : Int) < (s1 : Int)) = false := decide_eq_false (by omega)
  have t2 : (s1 == s2) = false := beq_eq_false_iff_ne.2 (by omega)
  have t2i : ((s1 : Int) == (s2 : Int)) = false := beq_eq_false_iff_ne.2 (by omega)
  have t3 : (s1 == 0) = true := beq_iff_eq.2 (by omega)
  have t3i : ((s1 : Int) == (0 : Int)) = true := beq_iff_eq.2 (by omega)
  have g1 : decide (0 < n) = true := decide_eq_true (by omega)
  have g1i : decide ((0 : Int) < (n : Int)) = true := decide_eq_true (by omega)
  clear h h2 hn
  go_enter Tryd.func60, Tryd.ntmps60
  go_wp2_with (go_at_call 87; (with_reducible refine (errors_New.err _ _).mono ?_); rintro e w3 ⟨x, rfl, hb⟩; have HB := Aside0.mk hb; clear hb)
  go_ret
  exact ⟨_, rfl, HB.out⟩
set_option maxHeartbeats 1000000 in
set_option maxRecDepth 100000 in
theorem vc_err4 (a0 a1 a2 a3 a4 a5 : Int) (s1 s2 : Nat) (A : Option Addr) (n c : Nat) (A1 : Option Addr) (n1 c1 : Nat) (A2 : Option Addr) (n2 c2 : Nat) (h : 0 < s1) (h2 : s1 < s2) (hn : n = 0) (w : World) :
    Calls Tryd.prog 60 #[toyV a0 a1 a2 a3 a4 a5, .int .u64 (s1 : Nat), .int .u64 (s2 : Nat), .slice A n c, .slice A1 n1 c1, .slice A2 n2 c2] w fun e w' => ∃ x, e = .returned (.iface 175 (.pointer (some x))) ∧ Below w.heap.size w w' := by
  have t1 : decide (s2 < s1) = false := decide_eq_false (by omega)
  have t1i : decide ((s2 : Int) < (s1 : Int)) = false := decide_eq_false (by omega)
  have t2 : (s1 == s2) = false := beq_eq_false_iff_ne.2 (by omega)
  have t2i : ((s1 : Int) == (s2 : Int)) = false := beq_eq_false_iff_ne.2 (by omega)
  have t3 : (s1 == 0) = false := beq_eq_false_iff_ne.2 (by omega)
  have t3i : ((s1 : Int) == (0 : Int)) = false := beq_eq_false_iff_ne.2 (by omega)
  have t4 : (n == 0) = true := beq_iff_eq.2 (by omega)
  have t4i : ((n : Int) == (0 : Int)) = true := beq_iff_eq.2 (by omega)
  clear h h2 hn
  go_enter Tryd.func60, Tryd.ntmps60
  go_wp2_with (go_at_call 87; (with_reducible refine (errors_New.err _ _).mono ?_); rintro e w3 ⟨x, rfl, hb⟩; have HB := Aside0.mk hb; clear hb)
  go_ret
  exact ⟨_, rfl, HB.out⟩
set_option maxHeartbeats 1000000 in
set_option maxRecDepth 100000 in
theorem vc_zero (a0 a1 a2 a3 a4 a5 : Int) (s1 s2 : Nat) (A : Option Addr) (n c : Nat) (A1 : Option Addr) (n1 c1 : Nat) (A2 : Option Addr) (n2 c2 : Nat) (h : s1 = 0) (h2 : s1 < s2) (hn : n = 0) (w : World) :
    Calls Tryd.prog 60 #[toyV a0 a1 a2 a3 a4 a5, .int .u64 (s1 : Nat), .int .u64 (s2 : Nat), .slice A n c, .slice A1 n1 c1, .slice A2 n2 c2] w fun e w' => e = .returned .nilIface ∧ w = w' := by
  have t1 : decide (s2 < s1) = false := decide_eq_false (by omega)
  have t1i : decide ((s2 : Int) < (s1 : Int)) = false := decide_eq_false (by omega)
  have t2 : (s1 == s2) = false := beq_eq_false_iff_ne.2 (by omega)
  have t2i : ((s1 : Int) == (s2 : Int)) = false := beq_eq_false_iff_ne.2 (by omega)
  have t3 : (s1 == 0) = true := beq_iff_eq.2 (by omega)
  have t3i : ((s1 : Int) == (0 : Int)) = true := beq_iff_eq.2 (by omega)
  have g1 : decide (0 < n) = false := decide_eq_false (by omega)
  have g1i : decide ((0 : Int) < (n : Int)) = false := decide_eq_false (by omega)
  clear h h2 hn
  go_enter Tryd.func60, Tryd.ntmps60
  go_wp2
  go_ret
  exact ⟨rfl, rfl⟩
end Go.Proofs.YtfhcpniibiobgaaDoor.Qf
