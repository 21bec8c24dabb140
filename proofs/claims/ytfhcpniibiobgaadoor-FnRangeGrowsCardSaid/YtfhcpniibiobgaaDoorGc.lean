/- appendImpl of one leaf, walked. -/
import Derived.Test.YtfhcpniibiobgaaDoorJg
import Derived.Deep.RegionHeld3
namespace Go.Proofs.YtfhcpniibiobgaaDoor.Qf
open Go.RowKit Go.Proofs.YtfhcpniibiobgaaDoorW.PrintWords Go.Proofs.YtfhcpniibiobgaaDoorW.PrintLast Go.Proofs.YtfhcpniibiobgaaDoorW.PrintMore
open Hs (CB CL at_L at_B infoB infoL R_of_blk)

theorem visA_ne (g : Nat) (W : World) : (binOp .neq 152 (.func (.func 64) #[] #[.pointer (some ⟨g, 0, none⟩)]) .nilFunc).run Tryd.prog W = .ok (.bool true) W := by kernel_rfl
/-- The hashes merged from the right, each with what is there so far. -/
def mgO (a0 a1 a2 a3 a4 a5 : Int) (l : List (List Int)) : Nat → List Int → Option (List Int)
  | 0, s => some s
  | n + 1, s => (mgO a0 a1 a2 a3 a4 a5 l n s).bind fun s' => (impl_toy_HashChildren.f a0 a1 a2 a3 a4 a5 (l.getD (l.length - (n + 1)) []) s').bind fun s2 => if s2.length ≤ 140737488351232 then some s2 else none

theorem mgO_pre {a0 a1 a2 a3 a4 a5 : Int} {l : List (List Int)} {s : List Int} : ∀ {n : Nat} {r : List Int}, mgO a0 a1 a2 a3 a4 a5 l n s = some r → ∀ t, t ≤ n → ∃ r', mgO a0 a1 a2 a3 a4 a5 l t s = some r'
  | 0, r, h, t, ht => by
    obtain rfl : t = 0 := by omega
    exact ⟨r, h⟩
  | n + 1, r, h, t, ht => by
    by_cases e : t = n + 1
    · subst e
      exact ⟨r, h⟩
    · rw [mgO] at h
      obtain ⟨r1, h1, _⟩ := Option.bind_eq_some_iff.1 h
      exact mgO_pre h1 t (by omega)
theorem mgO_next {a0 a1 a2 a3 a4 a5 : Int} {l : List (List Int)} {s s' s2 : List Int} {t : Nat} (h : mgO a0 a1 a2 a3 a4 a5 l t s = some s') (h2 : mgO a0 a1 a2 a3 a4 a5 l (t + 1) s = some s2) : impl_toy_HashChildren.f a0 a1 a2 a3 a4 a5 (l.getD (l.length - (t + 1)) []) s' = some s2 ∧ s2.length ≤ 140737488351232 := by
  rw [mgO, h, Option.bind_some] at h2
  obtain ⟨r, h3, h4⟩ := Option.bind_eq_some_iff.1 h2
  split at h4
  · obtain rfl := Option.some.inj h4
    exact ⟨h3, by assumption⟩
  · cases h4
/-- What is shown of the nodes that a leaf completes. -/
def visL (a0 a1 a2 a3 a4 a5 : Int) (low ix0 : Nat) (l : List (List Int)) (s : List Int) : Nat → List Vis
  | 0 => []
  | j + 1 => visL a0 a1 a2 a3 a4 a5 low ix0 l s j ++ [((((low + (j + 1) : Nat)) : Int), ((ix0 / 2 ^ (j + 1) : Nat) : Int), (mgO a0 a1 a2 a3 a4 a5 l (j + 1) s).getD [])]
theorem visL_len (a0 a1 a2 a3 a4 a5 : Int) (low ix0 : Nat) (l : List (List Int)) (s : List Int) : ∀ n, (visL a0 a1 a2 a3 a4 a5 low ix0 l s n).length = n
  | 0 => rfl
  | j + 1 => by rw [visL, List.length_append, visL_len a0 a1 a2 a3 a4 a5 low ix0 l s j]; rfl
set_option maxHeartbeats 4000000 in
set_option maxRecDepth 100000 in
theorem appendImpl_one (a0 a1 a2 a3 a4 a5 : Int) (w0 : World) (gr gf gs : Nat) (S : Nat → Prop) (w : World) (b e x : Nat) (vr vs : Value) (l : List (List Int)) (V : List Vis) (As : Option Addr) (cs : Nat) (s t : List Int) (low hgh n : Nat) (h : RSt a0 a1 a2 a3 a4 a5 w0 gr gf gs S w (b : Int) (e : Int) vr vs l V) (hs : Safe S w As s) (hsc : s.length ≤ cs) (HG_ : Glob w0)
    (hx : e < 18446744073709551616) (hmp : compact_getMergePath.f (b : Int) (e : Int) (x : Int) = some ((low : Int), (hgh : Int))) (hlh : low ≤ hgh) (hn : low + n = hgh) (hh : hgh ≤ 64) (hnl : n ≤ l.length) (hn0 : V.length + n ≤ 1000) (hll : l.length ≤ 1000)
    (hones : bits_OnesCount64.f (Go.bits .and .u64 ((e : Int) / 2 ^ low) (IntKind.u64.wrap (IntKind.u64.wrap ((2 : Int) ^ n) - 1))) = some (n : Int)) (hbits : ∀ i, i < n → e / 2 ^ low / 2 ^ i % 2 = 1)
    (hm : mgO a0 a1 a2 a3 a4 a5 l n s = some t) :
    Calls Tryd.prog 98 #[.pointer (some ⟨gr, 0, none⟩), .int .u64 (x : Int), .slice As s.length cs, .slice none 0 0, .func (.func 64) #[] #[.pointer (some ⟨gs, 0, none⟩)]] w fun en w' => ∃ vr' vs' S', en = .returned .nilIface ∧ RSt a0 a1 a2 a3 a4 a5 w0 gr gf gs S' w' (b : Int) (x : Int) vr' vs' (l.take (l.length - n) ++ [t]) (V ++ visL a0 a1 a2 a3 a4 a5 low (e / 2 ^ low) l s n) ∧ Grows S S' w ∧ KeptS S' w w' := by
  have HR := Aside0.mk h
  have HS := Aside0.mk hs
  have HG := Aside0.mk HG_
  have HMP := Aside0.mk hmp
  have HM := Aside0.mk hm
  have HON := Aside0.mk hones
  have HBI := Aside0.mk hbits
  clear h hs HG_ hmp hm hones hbits
  obtain ⟨A, c, rfl, hlc, _⟩ := Kd.R_reads HR.out.rows.row
  have k0 : w.cell? ⟨gr, 0, none⟩ = some (.pointer (some ⟨gf, 0, none⟩)) := (blk_cell HR.out.obj 0).trans rfl
  have k1 : w.cell? ⟨gr, 1, none⟩ = some (.int .u64 (b : Int)) := (blk_cell HR.out.obj 1).trans rfl
  have k2 : w.cell? ⟨gr, 2, none⟩ = some (.int .u64 (e : Int)) := (blk_cell HR.out.obj 2).trans rfl
  have k3 : w.cell? ⟨gr, 3, none⟩ = some (.slice A l.length c) := (blk_cell HR.out.obj 3).trans rfl
  have t1 : decide ((hgh : Int) < (low : Int)) = false := decide_eq_false (by omega)
  have t1n : decide (hgh < low) = false := decide_eq_false (by omega)
  have hsub : ∀ z : Int, z = (low : Int) → IntKind.u64.wrap ((hgh : Int) - z) = (n : Int) := fun z hz => by
    rw [hz, show ((hgh : Int) - (low : Int)) = (n : Int) by omega]
    show (n : Int) % 18446744073709551616 = _
    omega
  go_enter Tryd.func98, Tryd.ntmps98
  go_wp2
  go_region_held3 (fun w' => w'.cell? ⟨gr, 1, none⟩ = some (.int .u64 (b : Int)) ∧ w'.cell? ⟨gr, 2, none⟩ = some (.int .u64 (e : Int)) ∧ Below w.heap.size w w')
    (((try dsimp only); (try go_split_ands); (repeat' apply And.intro) <;> first | (go_keep; done) | exact below_drew (Below.refl _ _) | (refine pw_cell_below hb ?_; assumption) | (refine below_then ?_ ?_ hb; assumption; exact Below.size (by assumption))))
    ((go_at_call 115; have hB0 := Aside0.mk (show Below w.heap.size w _ by go_split_ands; assumption); refine (compact_getMergePath.calls (b : Int) (e : Int) (x : Int) (low : Int) (hgh : Int) _ (Glob.below HG.out (below_sz' HR.out.below ((Below.mono hB0.out HR.out.below.size)))) HMP.out).mono ?_; rintro en w1 ⟨rfl, hd⟩; have hb := hd.below))
  go_split_ands
  have hB1 : Below w.heap.size w w1 := by assumption
  have HR1 := Aside0.mk (HR.out.step hB1)
  have HS1 := Aside0.mk (HS.out.below hB1)
  have k0 : w1.cell? ⟨gr, 0, none⟩ = some (.pointer (some ⟨gf, 0, none⟩)) := (blk_cell HR1.out.obj 0).trans rfl
  have k2 : w1.cell? ⟨gr, 2, none⟩ = some (.int .u64 (e : Int)) := (blk_cell HR1.out.obj 2).trans rfl
  have k3 : w1.cell? ⟨gr, 3, none⟩ = some (.slice A l.length c) := (blk_cell HR1.out.obj 3).trans rfl
  have t2 : decide ((l.length : Int) < (n : Int)) = false := decide_eq_false (by omega)
  have t2n : decide (l.length < n) = false := decide_eq_false (by omega)
  have hz1 : ∀ z : Int, z = (n : Int) → wrap64 z = (n : Int) := fun z hz => by rw [hz]; exact w64_in _ (by omega)
  go_wp2_with (first
    | (go_at_call 113; (with_reducible refine (bits_OnesCount64.calls _ _ _ HON.out).mono ?_); rintro en w2 ⟨rfl, hd⟩; have HR2 := Aside0.mk (HR1.out.step hd.below); have HS2 := Aside0.mk (HS1.out.below hd.below); have HK2 := Aside0.mk (below_then hB1 hB1.size hd.below); have k0 := pw_cell_below hd.below k0; have k2 := pw_cell_below hd.below k2; have k3 := pw_cell_below hd.below k3; clear hd))
  (try simp only [Act.put, List.setIfInBounds_toArray, List.set_cons_zero, List.set_cons_succ])
  obtain ⟨ix0, hix0⟩ : ∃ q : Nat, q = e / 2 ^ low := ⟨_, rfl⟩
  have hix : (e : Int) / 2 ^ low = (ix0 : Int) := by rw [hix0]; push_cast; rfl
  have hixl : ix0 < 18446744073709551616 := by rw [hix0]; exact Nat.lt_of_le_of_lt (Nat.div_le_self _ _) hx
  rw [← hix0] at HBI
  have HPRE := Aside0.mk (fun t ht => mgO_pre HM.out t ht)
  go_loopg [2, 13, 18, 19, 20] n (fun kq v2 v13 v18 v19 v20 wr => ∃ (j ix p : Nat) (s' : List Int) (A' : Option Addr) (c' : Nat) (vs' : Value) (S' : Nat → Prop), j + kq = n ∧ v2 = .slice A' s'.length c' ∧ v13 = .int .u64 (ix : Int) ∧ ix = ix0 / 2 ^ j ∧ v18 = .int .i64 (p : Int) ∧ p + j = l.length ∧ v19 = .int .i64 0 ∧ v20 = .int .u64 ((low + j : Nat) : Int) ∧ Aside0 (s'.length ≤ c') ∧ Aside0 (RSt a0 a1 a2 a3 a4 a5 w0 gr gf gs S' wr (b : Int) (e : Int) (.slice A l.length c) vs' l (V ++ visL a0 a1 a2 a3 a4 a5 low ix0 l s j)) ∧ Aside0 (Safe S' wr A' s') ∧ Aside0 (Grows S S' w) ∧ Aside0 (KeptS S' w wr) ∧ Aside0 (mgO a0 a1 a2 a3 a4 a5 l j s = some s'))
  case atStart => exact ⟨0, ix0, l.length, s, As, cs, vs, S, by omega, rfl, by rw [hix], by simp, rfl, by omega, rfl, rfl, ⟨hsc⟩, by rw [visL, List.append_nil]; exact HR2, HS2, ⟨Grows.refl _ _⟩, ⟨KeptS.below HK2.out⟩, ⟨rfl⟩⟩
  case round =>
    clear k0 k1 k2 k3 HR2 HS2 HK2 HR1 HS1 HR HS t1 t1n t2 t2n hsub hz1 hix
    obtain ⟨j, ix, p, s', A', c', vs', S', hjk, rfl, rfl, hixe, rfl, hpl, rfl, rfl, HSC, HR, HS, HGr, HKp, HMj⟩ := hrel
    rename World => wr
    have k0 : wr.cell? ⟨gr, 0, none⟩ = some (.pointer (some ⟨gf, 0, none⟩)) := (blk_cell HR.out.obj 0).trans rfl
    have k3 : wr.cell? ⟨gr, 3, none⟩ = some (.slice A l.length c) := (blk_cell HR.out.obj 3).trans rfl
    have kf : wr.cell? ⟨gf, 0, none⟩ = some (.func (.func 53) #[.agg #[.int .i64 a0, .int .i64 a1, .int .i64 a2, .int .u64 a3, .int .u64 a4, .int .u64 a5]] #[]) := (blk_cell HR.out.fac 0).trans rfl
    by_cases hlt : j < n
    · have HJ := Aside0.mk hjk
      have u1 : decide (((low + j : Nat) : Int) < (hgh : Int)) = true := decide_eq_true (by omega)
      have hb1 : ix % 2 = 1 := by rw [hixe]; exact HBI.out j hlt
      have hixl2 : ix < 18446744073709551616 := by rw [hixe]; exact Nat.lt_of_le_of_lt (Nat.div_le_self _ _) hixl
      have u2 : (Go.bits .and .u64 (ix : Int) 1 == 0) = false := beq_eq_false_iff_ne.2 (by
        rw [show (1 : Int) = ((1 : Nat) : Int) from rfl, bits_and_u64_nat ix 1 hixl2 (by omega), Nat.and_one_is_mod, hb1]
        decide)
      obtain ⟨q, rfl⟩ : ∃ q, p = q + 1 := ⟨p - 1, by omega⟩
      have HPL := Aside0.mk hpl
      have HIX := Aside0.mk hixe
      have u3 : ∀ z : Int, z = 1 → wrap64 (((q + 1 : Nat) : Int) - z) = (q : Int) := fun z hz => by rw [hz, w64_in _ (by omega)]; omega
      obtain ⟨s2, hs2⟩ := HPRE.out (j + 1) (by omega)
      obtain ⟨hhc, hs2l⟩ := mgO_next HMj.out hs2
      rw [show l.length - (j + 1) = q by omega] at hhc
      obtain ⟨ad, cA, Ah, ch, ead, _, hxc, hlh, hsafe⟩ := HR.out.rows.at q (by omega)
      injection ead with ead1 ead2 ead3
      subst ead1 ead3
      generalize l.getD q [] = hsh at hhc hxc hlh hsafe
      have HHC := Aside0.mk hhc
      have HSF := Aside0.mk hsafe
      have HLh := Aside0.mk hlh
      have HS2L := Aside0.mk hs2l
      have HMn := Aside0.mk hs2
      have q0 : (0 : Int) ≤ (q : Int) := by omega
      have q1 : (q : Int) < (l.length : Int) := by omega
      clear hhc hsafe hlh hs2l hs2 hjk hpl hixe hb1 HMj
      go_wp2
      go_region_held3 (fun w' => w'.cell? ⟨gr, 0, none⟩ = some (.pointer (some ⟨gf, 0, none⟩)) ∧ w'.cell? ⟨gr, 3, none⟩ = some (.slice (some ad) l.length c) ∧ w'.cell? ⟨gf, 0, none⟩ = some (.func (.func 53) #[.agg #[.int .i64 a0, .int .i64 a1, .int .i64 a2, .int .u64 a3, .int .u64 a4, .int .u64 a5]] #[]) ∧ w'.cell? (ad.add q) = some (.slice Ah hsh.length ch) ∧ Below wr.heap.size wr w')
        (((try dsimp only); (try go_split_ands); (repeat' apply And.intro) <;> first | (go_keep; done) | exact below_drew (Below.refl _ _) | (refine pw_cell_below hb ?_; assumption) | (refine below_then ?_ ?_ hb; assumption; exact Below.size (by assumption))))
        ((go_at_call 53; have hB0 := Aside0.mk (show Below wr.heap.size wr _ by go_split_ands; assumption); refine (impl_toy_HashChildren.calls a0 a1 a2 a3 a4 a5 Ah ch hsh A' c' s' s2 _ (Kd.C_below HSF.out.bytes hB0.out) HLh.out (Kd.C_below HS.out.bytes hB0.out) HSC.out HHC.out).mono ?_; rintro en w3 ⟨v3, rfl, hR3, hb⟩))
      obtain ⟨A3, c3, rfl, hl3, hC3⟩ := Kd.R_reads hR3
      have HR0 := HR.out.step hB0.out
      have HS3 := Aside0.mk (Safe.new (S := S') HR0.top hR3)
      have HR3 := Aside0.mk (HR0.step hb)
      have HK3 := Aside0.mk (HKp.out.trans (Grows.refl _ _) (KeptS.below (S := S') (below_then hB0.out hB0.out.size hb)))
      have HL3 := Aside0.mk hl3
      clear hR3 hC3 hl3 HR0 hb hB0 HR HS HSC HSF HLh HHC
      have hne := visA_ne gs
      go_split_ands
      go_wp2_with (first
        | (go_at_call 90; (with_reducible refine (compact_NewNodeID.calls _ _ _ _ _ rfl).mono ?_); rintro en w5 ⟨rfl, hb⟩; have HK3 := Aside0.mk (HK3.out.trans (Grows.refl _ _) (KeptS.below (S := S') (HR3.out.below.size |> fun _ => hb))); have HS3 := Aside0.mk (HS3.out.below hb); have HR3 := Aside0.mk (HR3.out.step hb); clear hb)
        | (go_at_call 64; (with_reducible refine (HR3.out.visit _ _ A3 c3 s2 HS3.out HS2L.out (by rw [List.length_append, visL_len]; omega)).mono ?_); rintro en w6 ⟨v0, vs6, S6, rfl, hR6, hG6, hK6⟩; have HR6 := Aside0.mk hR6; have HG6 := Aside0.mk hG6; have HK6 := Aside0.mk hK6; clear hR6 hG6 hK6))
      have eV : V ++ visL a0 a1 a2 a3 a4 a5 low ix0 l s (j + 1) = V ++ visL a0 a1 a2 a3 a4 a5 low ix0 l s j ++ [((low : Int) + (j : Int) + 1, (ix : Int) / 2, s2)] := by
        rw [visL, HMn.out, HIX.out, List.append_assoc, Option.getD_some, show (((low + (j + 1) : Nat)) : Int) = (low : Int) + (j : Int) + 1 by omega, show ((ix0 / 2 ^ (j + 1) : Nat) : Int) = ((ix0 / 2 ^ j : Nat) : Int) / 2 by rw [Nat.pow_succ, ← Nat.div_div_eq_div_mul]; omega]
      have HGw : Aside0 (Grows S' S6 w) := ⟨HG6.out.1, fun i hi => (HG6.out.2 i hi).imp id fun h => Nat.le_trans HK3.out.size h⟩
      go_roundg (n - (j + 1))
      case measure => have := HJ.out; omega
      case rel => exact ⟨j + 1, ix / 2, q, s2, A3, c3, vs6, S6, by have := HJ.out; omega, rfl, by rw [show ((ix / 2 : Nat) : Int) = (ix : Int) / 2 by omega], by rw [HIX.out, Nat.div_div_eq_div_mul, ← Nat.pow_succ], rfl, by have := HPL.out; omega, rfl, by rw [show ((low + (j + 1) : Nat) : Int) = (low : Int) + (j : Int) + 1 by omega], HL3, by rw [eV]; exact HR6, ⟨HS3.out.step HG6.out HK6.out⟩, ⟨HGr.out.trans (by exact Nat.le_refl _) HGw.out⟩, ⟨HK3.out.trans HGw.out HK6.out⟩, HMn⟩
    · have hjn : j = n := by omega
      subst hjn
      have u1 : decide (((low + j : Nat) : Int) < (hgh : Int)) = false := decide_eq_false (by omega)
      have u1n : decide (low + j < hgh) = false := decide_eq_false (by omega)
      go_wp2
      -- TAIL
      obtain ⟨iL, hiL, hsL⟩ := Option.map_eq_some_iff.1 infoL
      have hcut1 : ∀ W : World, (Instr.slice 25 (.slice A l.length c) none (some (.int .i64 (p : Int))) none).run Tryd.prog W = .ok (.slice A p c) W := fun W => by
        have h := cut_to (P := Tryd.prog) 25 28 .i64 Tryd.underlying25 hiL A l.length c (p : Int) (by omega) (by omega) hlc W
        rw [Int.toNat_natCast] at h
        exact h
      have hcut2 : ∀ W : World, (Instr.slice 25 (.slice none 0 0) (some (.int .i64 0)) none none).run Tryd.prog W = .ok (.slice none 0 0) W := fun W => by kernel_rfl
      clear hiL hsL
      have HRz := Aside0.mk (HR.out.step (below_drew (Below.refl wr.heap.size wr)))
      have HSz := Aside0.mk (HS.out.below (below_drew (Below.refl wr.heap.size wr)))
      have HKz := Aside0.mk (HKp.out.trans (Grows.refl _ _) (KeptS.below (S := S') (below_drew (Below.refl wr.heap.size wr))))
      refine start_ (n := 17) (S := fun w' => w'.cell? ⟨gr, 3, none⟩ = some (.slice A l.length c)) (ds := [16]) #[false, false, false, false, false, false, false, false, false, false, false, false, false, false, false, false, false] (by kernel_rfl) rfl rfl ((blk_cell HRz.out.obj 3).trans rfl) (fun hHeld => ?_)
      generalize wr.drew = wz at HRz HSz HKz hHeld ⊢
      clear k0 k3 kf HR HS HKp
      refine pure_ (i := 0) (N := some 131) (v := ?_) (a' := ?_) #[true, false, false, false, false, false, false, false, false, false, false, false, false, false, false, false, false] rfl rfl (by kernel_rfl) (fun _ _ _ h => h) (Or.inl ⟨by rfl, ?_⟩) ?_ ?_
      rotate_left
      · intro w'
        go_simp
        with_reducible rfl
      rotate_left
      · simp only [Act.put, List.setIfInBounds_toArray, List.set_cons_zero, List.set_cons_succ]
        rfl
      refine pure_ (i := 1) (N := some 132) (v := ?_) (a' := ?_) #[true, true, false, false, false, false, false, false, false, false, false, false, false, false, false, false, false] rfl rfl (by kernel_rfl) (fun _ _ _ h => h) (Or.inl ⟨by rfl, ?_⟩) ?_ ?_
      rotate_left
      · intro w'
        go_simp
        with_reducible rfl
      rotate_left
      · simp only [Act.put, List.setIfInBounds_toArray, List.set_cons_zero, List.set_cons_succ]
        rfl
      refine pure_ (i := 2) (N := some 133) (v := ?_) (a' := ?_) #[true, true, true, false, false, false, false, false, false, false, false, false, false, false, false, false, false] rfl rfl (by kernel_rfl) (fun _ _ _ h => h) (Or.inl ⟨by rfl, ?_⟩) ?_ ?_
      rotate_left
      · intro w'
        go_simp
        with_reducible rfl
      rotate_left
      · simp only [Act.put, List.setIfInBounds_toArray, List.set_cons_zero, List.set_cons_succ]
        rfl
      refine pure_ (i := 3) (N := some 134) (v := ?_) (a' := ?_) #[true, true, true, true, false, false, false, false, false, false, false, false, false, false, false, false, false] rfl rfl (by kernel_rfl) (fun _ _ _ h => h) (Or.inl ⟨by rfl, ?_⟩) ?_ ?_
      rotate_left
      · intro w'
        go_simp
        with_reducible rfl
      rotate_left
      · simp only [Act.put, List.setIfInBounds_toArray, List.set_cons_zero, List.set_cons_succ]
        rfl
      refine take_ (i := 4) (N := some 135) (v := ?_) (a' := ?_) #[true, true, true, true, true, false, false, false, false, false, false, false, false, false, false, false, false] rfl rfl (by kernel_rfl) (fun _ _ _ h => h) (Or.inl ⟨by rfl, ?_⟩) hHeld ?_ ?_
      rotate_left
      · intro w' s0
        go_simp
        with_reducible rfl
      rotate_left
      · simp only [Act.put, List.setIfInBounds_toArray, List.set_cons_zero, List.set_cons_succ]
        rfl
      refine pure_ (i := 5) (N := some 136) (v := ?_) (a' := ?_) #[true, true, true, true, true, true, false, false, false, false, false, false, false, false, false, false, false] rfl rfl (by kernel_rfl) (fun _ _ _ h => h) (Or.inl ⟨by rfl, ?_⟩) ?_ ?_
      rotate_left
      · intro w'
        go_simp
        with_reducible rfl
      rotate_left
      · simp only [Act.put, List.setIfInBounds_toArray, List.set_cons_zero, List.set_cons_succ]
        rfl
      refine pure_ (i := 6) (N := some 137) (v := ?_) (a' := ?_) #[true, true, true, true, true, true, true, false, false, false, false, false, false, false, false, false, false] rfl rfl (by kernel_rfl) (fun _ _ _ h => h) (Or.inl ⟨by rfl, ?_⟩) ?_ ?_
      rotate_left
      · intro w'
        go_simp
        with_reducible rfl
      rotate_left
      · simp only [Act.put, List.setIfInBounds_toArray, List.set_cons_zero, List.set_cons_succ]
        rfl
      refine pure_ (i := 7) (N := some 138) (v := ?_) (a' := ?_) #[true, true, true, true, true, true, true, true, false, false, false, false, false, false, false, false, false] rfl rfl (by kernel_rfl) (fun _ _ _ h => h) (Or.inl ⟨by rfl, ?_⟩) ?_ ?_
      rotate_left
      · intro w'
        go_simp
        with_reducible rfl
      rotate_left
      · simp only [Act.put, List.setIfInBounds_toArray, List.set_cons_zero, List.set_cons_succ]
        rfl
      refine pure_ (i := 10) (N := some 141) (v := ?_) (a' := ?_) #[true, true, true, true, true, true, true, true, false, false, true, false, false, false, false, false, false] rfl rfl (by kernel_rfl) (fun _ _ _ h => h) (Or.inl ⟨by rfl, ?_⟩) ?_ ?_
      rotate_left
      · intro w'
        go_simp
        with_reducible rfl
      rotate_left
      · simp only [Act.put, List.setIfInBounds_toArray, List.set_cons_zero, List.set_cons_succ]
        rfl
      refine pure_ (i := 11) (N := some 142) (v := ?_) (a' := ?_) #[true, true, true, true, true, true, true, true, false, false, true, true, false, false, false, false, false] rfl rfl (by kernel_rfl) (fun _ _ _ h => h) (Or.inl ⟨by rfl, ?_⟩) ?_ ?_
      rotate_left
      · intro w'
        go_simp
        with_reducible rfl
      rotate_left
      · simp only [Act.put, List.setIfInBounds_toArray, List.set_cons_zero, List.set_cons_succ]
        rfl
      refine pure_ (i := 12) (N := some 143) (v := ?_) (a' := ?_) #[true, true, true, true, true, true, true, true, false, false, true, true, true, false, false, false, false] rfl rfl (by kernel_rfl) (fun _ _ _ h => h) (Or.inl ⟨by rfl, ?_⟩) ?_ ?_
      rotate_left
      · intro w'
        go_simp
        with_reducible rfl
      rotate_left
      · simp only [Act.put, List.setIfInBounds_toArray, List.set_cons_zero, List.set_cons_succ]
        rfl
      refine one_ (i := 8) (N := some 139) #[true, true, true, true, true, true, true, true, true, false, true, true, true, false, false, false, false] rfl rfl (by kernel_rfl) (by decide) (fun K hK => ?_)
      refine event_step rfl (v := .slice (some ⟨_, 0, none⟩) 1 1) (w1 := World.alloc _ (.cells #[.slice A' s'.length c'] 28)) (by first | (go_simp; done) | (go_simp; rfl) | (go_simp; exact ⟨rfl, rfl⟩)) ?_
      refine hK.out _ _ ((blk_cell (blk_below HRz.out.obj (below_alloc (Below.refl _ _) _)) 3).trans rfl) (fun hHeld => ?_)
      clear hK K
      refine norm_ (a' := ?_) ?_ ?_
      rotate_left
      · show Act.put _ (some 139) _ = _
        simp only [Act.put, List.setIfInBounds_toArray, List.set_cons_zero, List.set_cons_succ]
        rfl
      refine one_ (i := 9) (N := some 140) #[true, true, true, true, true, true, true, true, true, true, true, true, true, false, false, false, false] rfl rfl (by kernel_rfl) (by decide) (fun K hK => ?_)
      refine Kd.R_append_step (kG S' wz) (w0 := w0) w0.heap.size rfl (.tmp 137) (.tmp 139) 25 28 (.slice none 0 0) 24 rfl Tryd.underlying25 infoL rfl Nat.zero_lt_one (by omega) (.slice A p c) (l.take p) s' [.slice A' s'.length c'] (fun _ => True) (fun _ => False) rfl rfl ⟨A', c', rfl, HSC.out, HSz.out⟩ (fun _ h => h.elim) (fun _ _ => trivial) (Kd.R_take HRz.out.rows.row (by omega)) HRz.out.below HRz.out.below.size (by rw [List.length_take]; omega) ?_
      intro v1 w1 hR1 hB1 hG1 hA1
      have eqo : (Value.slice A p c).ownBlock = (Value.slice A l.length c).ownBlock := by cases A <;> rfl
      rw [eqo] at hG1 hA1
      have hz0 := lt_of_block HRz.out.obj
      have hne3 : some gr ≠ (Value.slice A l.length c).ownBlock := fun he => (HRz.out.rown gr he.symm).2.2 rfl
      have hobj1 := (hG1.block gr hz0 hne3).trans HRz.out.obj
      refine hK.out _ _ ((blk_cell hobj1 3).trans rfl) (fun hHeld => ?_)
      clear hK K
      refine norm_ (a' := ?_) ?_ ?_
      rotate_left
      · show Act.put _ (some 140) _ = _
        simp only [Act.put, List.setIfInBounds_toArray, List.set_cons_zero, List.set_cons_succ]
        rfl
      refine one_ (i := 13) (N := some 144) #[true, true, true, true, true, true, true, true, true, true, true, true, true, true, false, false, false] rfl rfl (by kernel_rfl) (by decide) (fun K hK => ?_)
      refine Kd.R_append_rows_step (kG S' wz) (Rr := fun _ _ => False) (w0 := w0) w0.heap.size rfl (.tmp 140) (.tmp 143) 25 28 (.slice none 0 0) 24 rfl Tryd.underlying25 infoL rfl Nat.zero_lt_one (by omega) v1 (l.take p ++ [s']) [] none 0 0 (fun _ => True) (fun _ => False) rfl rfl hR1 ⟨rfl, by simp, fun h => by simp at h⟩ (fun _ _ h => h.elim) (fun _ h => h.elim) (fun _ _ => trivial) hB1 (hB1.size) (by rw [List.length_append, List.length_take, List.length_singleton]; omega) ?_
      intro v2 w2' hR2 hB2 hG2 hA2
      have hsz1 : wz.heap.size ≤ w1.heap.size := hG1.size
      have hsz2 : w1.heap.size ≤ w2'.heap.size := hG2.size
      have own1 : ∀ q, q < wz.heap.size → some q ≠ (Value.slice A l.length c).ownBlock → some q ≠ v1.ownBlock := fun q hq hne he => by
        rcases hA1 with h1 | ⟨b1, h1, h2⟩
        · exact hne (he.trans h1)
        · rw [h1] at he
          injection he with he
          omega
      have hG12 : ∀ q, q < wz.heap.size → some q ≠ (Value.slice A l.length c).ownBlock → w2'.heap[q]? = wz.heap[q]? := fun q hq hne => (hG2.block q (by omega) (own1 q hq hne)).trans (hG1.block q hq hne)
      have hA12 : v2.ownBlock = (Value.slice A l.length c).ownBlock ∨ ∃ q, v2.ownBlock = some q ∧ wz.heap.size ≤ q := by
        rcases hA2 with h1 | ⟨b1, h1, h2⟩
        · rcases hA1 with h3 | ⟨b3, h3, h4⟩
          · exact .inl (h1.trans h3)
          · exact .inr ⟨b3, h1.trans h3, h4⟩
        · exact .inr ⟨b1, h1, by omega⟩
      rw [List.append_nil] at hR2
      have hobj2 := (hG12 gr hz0 hne3).trans HRz.out.obj
      obtain ⟨hP1, hP2, hP3⟩ := HRz.out.put hR2 hG12 (Nat.le_trans hsz1 hsz2) hB2 hA12 (x : Int)
      obtain ⟨Av, cv, rfl⟩ := Kd.R_slice hR2
      refine hK.out _ _ ((blk_cell hobj2 3).trans rfl) (fun hHeld => ?_)
      clear hK K
      refine norm_ (a' := ?_) ?_ ?_
      rotate_left
      · show Act.put _ (some 144) _ = _
        simp only [Act.put, List.setIfInBounds_toArray, List.set_cons_zero, List.set_cons_succ]
        rfl
      refine pure_ (i := 14) (N := some 145) (v := ?_) (a' := ?_) #[true, true, true, true, true, true, true, true, true, true, true, true, true, true, true, false, false] rfl rfl (by kernel_rfl) (fun _ _ _ h => h) (Or.inl ⟨by rfl, ?_⟩) ?_ ?_
      rotate_left
      · intro w'
        go_simp
        with_reducible rfl
      rotate_left
      · simp only [Act.put, List.setIfInBounds_toArray, List.set_cons_zero, List.set_cons_succ]
        rfl
      refine pure_ (i := 15) (N := some 146) (v := ?_) (a' := ?_) #[true, true, true, true, true, true, true, true, true, true, true, true, true, true, true, true, false] rfl rfl (by kernel_rfl) (fun _ _ _ h => h) (Or.inl ⟨by rfl, ?_⟩) ?_ ?_
      rotate_left
      · intro w'
        go_simp
        with_reducible rfl
      rotate_left
      · simp only [Act.put, List.setIfInBounds_toArray, List.set_cons_zero, List.set_cons_succ]
        rfl
      have hc3 : w2'.cell? ⟨gr, 3, none⟩ = some (.slice A l.length c) := (blk_cell hobj2 3).trans rfl
      have hf3 : w2'.frozen? ⟨gr, 3, none⟩ = false := blk_frozen hobj2 3
      clear hHeld
      refine last_ (i := 16) (N := none) #[true, true, true, true, true, true, true, true, true, true, true, true, true, true, true, true, true] rfl rfl (by kernel_rfl) (by simp) (fun K hK => ?_)
      refine store_step rfl (w1 := w2'.setCell ⟨gr, 3, none⟩ (.slice Av (l.take p ++ [s']).length cv)) (by first | (go_simp; done) | (go_simp; rfl) | (go_simp; exact ⟨rfl, rfl⟩)) ?_
      refine hK.out _ _ ?_
      clear hK K
      refine norm_ (a' := ?_) ?_ ?_
      rotate_left
      · show Act.put _ none _ = _
        first | rfl | (simp only [Act.put]; rfl) | simp only [Act.put]
      refine done_ (by kernel_rfl) ?_
      have hobj3 := blk_set hobj2 3 (.slice Av (l.take p ++ [s']).length cv)
      have hc2 : (w2'.setCell ⟨gr, 3, none⟩ (.slice Av (l.take p ++ [s']).length cv)).cell? ⟨gr, 2, none⟩ = some (.int .u64 (e : Int)) := (blk_cell hobj3 2).trans (by simp)
      have hf2 : (w2'.setCell ⟨gr, 3, none⟩ (.slice Av (l.take p ++ [s']).length cv)).frozen? ⟨gr, 2, none⟩ = false := blk_frozen hobj3 2
      generalize (w2'.setCell ⟨gr, 3, none⟩ (.slice Av (l.take p ++ [s']).length cv)) = w9 at hP1 hP3 hc2 hf2 ⊢
      have HP1 := Aside0.mk hP1
      have HP3 := Aside0.mk hP3
      have HP2 := Aside0.mk hP2
      clear hP1 hP2 hP3 hobj1 hobj2 hobj3 hc3 hf3 hG12 hA12 hG1 hA1 hB1 hR1 hG2 hA2 hB2 hR2 own1 hne3 eqo
      go_wp2
      go_ret
      have est : s' = t := Option.some.inj (HMj.out.symm.trans HM.out)
      have ep : l.length - j = p := by omega
      have hGw : Grows S' _ w := ⟨HP2.out.1, fun i hi => (HP2.out.2 i hi).imp id fun h => Nat.le_trans HKz.out.size h⟩
      rw [ep, ← est]
      rw [← hix0]
      exact ⟨_, _, _, rfl, HP1.out, HGr.out.trans (Nat.le_refl _) hGw, HKz.out.trans hGw HP3.out⟩
end Go.Proofs.YtfhcpniibiobgaaDoor.Qf
