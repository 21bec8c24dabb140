/- appendImpl, walked (made of r3g's by gen_rk.py). -/
import Derived.Test.YtfhcpniibiobgaaDoorJv
import Derived.Deep.RegionHeld3
namespace Go.Proofs.YtfhcpniibiobgaaDoor.Qf
open Go.RowKit Go.Proofs.YtfhcpniibiobgaaDoorW.PrintWords Go.Proofs.YtfhcpniibiobgaaDoorW.PrintLast Go.Proofs.YtfhcpniibiobgaaDoorW.PrintMore
open Hs (CB CL at_L at_B infoB infoL R_of_blk)
open Go.Proofs.YtfhcpniibiobgaaDoor.M (pc pc_add)

theorem visR_ne (g : Nat) (W : World) : (binOp .neq 152 (.func (.func 71) #[] #[.pointer (some ⟨g, 0, none⟩)]) .nilFunc).run Tryd.prog W = .ok (.bool true) W := by kernel_rfl
/-- What the seed becomes on its way up: the bits say from which side. -/
def mrO (a0 a1 a2 a3 a4 a5 : Int) (l m : List (List Int)) (x : Nat) : Nat → List Int → Option (List Int)
  | 0, s => some s
  | n + 1, s => (mrO a0 a1 a2 a3 a4 a5 l m x n s).bind fun s' => (if x / 2 ^ n % 2 = 1 then impl_toy_HashChildren.f a0 a1 a2 a3 a4 a5 (l.getD (l.length - 1 - pc n x) []) s' else impl_toy_HashChildren.f a0 a1 a2 a3 a4 a5 s' (m.getD (n - pc n x) [])).bind fun s2 => if s2.length ≤ 140737488351232 then some s2 else none
theorem mrO_pre {a0 a1 a2 a3 a4 a5 : Int} {l m : List (List Int)} {x : Nat} {s : List Int} : ∀ {n : Nat} {r : List Int}, mrO a0 a1 a2 a3 a4 a5 l m x n s = some r → ∀ t, t ≤ n → ∃ r', mrO a0 a1 a2 a3 a4 a5 l m x t s = some r'
  | 0, r, h, t, ht => by
    obtain rfl : t = 0 := by omega
    exact ⟨r, h⟩
  | n + 1, r, h, t, ht => by
    by_cases e : t = n + 1
    · subst e
      exact ⟨r, h⟩
    · rw [mrO] at h
      obtain ⟨r1, h1, _⟩ := Option.bind_eq_some_iff.1 h
      exact mrO_pre h1 t (by omega)
theorem mrO_next {a0 a1 a2 a3 a4 a5 : Int} {l m : List (List Int)} {x : Nat} {s s' s2 : List Int} {t : Nat} (h : mrO a0 a1 a2 a3 a4 a5 l m x t s = some s') (h2 : mrO a0 a1 a2 a3 a4 a5 l m x (t + 1) s = some s2) : (if x / 2 ^ t % 2 = 1 then impl_toy_HashChildren.f a0 a1 a2 a3 a4 a5 (l.getD (l.length - 1 - pc t x) []) s' else impl_toy_HashChildren.f a0 a1 a2 a3 a4 a5 s' (m.getD (t - pc t x) [])) = some s2 ∧ s2.length ≤ 140737488351232 := by
  rw [mrO, h, Option.bind_some] at h2
  obtain ⟨r, h3, h4⟩ := Option.bind_eq_some_iff.1 h2
  split at h4
  · obtain rfl := Option.some.inj h4
    exact ⟨h3, by assumption⟩
  · cases h4
set_option maxHeartbeats 4000000 in
set_option maxRecDepth 100000 in
theorem appendR_gen (a0 a1 a2 a3 a4 a5 : Int) (w0 : World) (gr gf gs : Nat) (S : Nat → Prop) (w : World) (b e x : Nat) (vr vs : Value) (l : List (List Int)) (n0 : Nat) (As : Option Addr) (cs : Nat) (s t : List Int) (Am : Option Addr) (cm : Nat) (m : List (List Int)) (low hgh n o : Nat) (h : RSt a0 a1 a2 a3 a4 a5 w0 gr gf gs S w (b : Int) (e : Int) vr vs l n0) (hs : Safe S w As s) (hsc : s.length ≤ cs) (hmr : LRow S w Am m) (hmc : m.length ≤ cm) (hml : m.length ≤ 500) (HG_ : Glob w0)
    (hx : e < 18446744073709551616) (hmp : compact_getMergePath.f (b : Int) (e : Int) (x : Int) = some ((low : Int), (hgh : Int))) (hlh : low ≤ hgh) (hn : low + n = hgh) (hh : hgh ≤ 64) (ho : o = pc n (e / 2 ^ low)) (hnl : o ≤ l.length) (hnm : n - o ≤ m.length) (hn0 : n0 + n ≤ 1000) (hll : l.length ≤ 500)
    (hones : bits_OnesCount64.f (Go.bits .and .u64 ((e : Int) / 2 ^ low) (IntKind.u64.wrap (IntKind.u64.wrap ((2 : Int) ^ n) - 1))) = some (o : Int))
    (hm : mrO a0 a1 a2 a3 a4 a5 l m (e / 2 ^ low) n s = some t) :
    Calls Tryd.prog 98 #[.pointer (some ⟨gr, 0, none⟩), .int .u64 (x : Int), .slice As s.length cs, .slice Am m.length cm, .func (.func 71) #[] #[.pointer (some ⟨gs, 0, none⟩)]] w fun en w' => ∃ vr' vs' S', en = .returned .nilIface ∧ RSt a0 a1 a2 a3 a4 a5 w0 gr gf gs S' w' (b : Int) (x : Int) vr' vs' (l.take (l.length - o) ++ [t] ++ m.drop (n - o)) (n0 + n) ∧ Grows S S' w ∧ KeptS S' w w' := by
  have HR := Aside0.mk h
  have HS := Aside0.mk hs
  have HG := Aside0.mk HG_
  have HMP := Aside0.mk hmp
  have HM := Aside0.mk hm
  have HON := Aside0.mk hones
  have HLR := Aside0.mk hmr
  have HMC := Aside0.mk hmc
  have HML := Aside0.mk hml
  have HLL := Aside0.mk hll
  have HNM := Aside0.mk hnm
  have HNL := Aside0.mk hnl
  have hon : o ≤ n := by rw [ho]; exact pc_le' _ _
  have HONN := Aside0.mk hon
  obtain ⟨ixz, hixz⟩ : ∃ ixz, ixz = e / 2 ^ low := ⟨_, rfl⟩
  rw [← hixz] at ho hm
  have HIXZ := Aside0.mk hixz
  have HO := Aside0.mk ho
  have HM := Aside0.mk hm
  clear h hs HG_ hmp hm hones hmr ho hixz hon
  obtain ⟨A, c, rfl, hlc, _⟩ := Kd.R_reads HR.out.rows.row
  have k0 : w.cell? ⟨gr, 0, none⟩ = some (.pointer (some ⟨gf, 0, none⟩)) := (blk_cell HR.out.obj 0).trans rfl
  have k1 : w.cell? ⟨gr, 1, none⟩ = some (.int .u64 (b : Int)) := (blk_cell HR.out.obj 1).trans rfl
  have k2 : w.cell? ⟨gr, 2, none⟩ = some (.int .u64 (e : Int)) := (blk_cell HR.out.obj 2).trans rfl
  have k3 : w.cell? ⟨gr, 3, none⟩ = some (.slice A l.length c) := (blk_cell HR.out.obj 3).trans rfl
  have t1 : decide ((hgh : Int) < (low : Int)) = false := decide_eq_false (by omega)
  have t1n : decide (hgh < low) = false := decide_eq_false (by omega)
  have hsub : ∀ z : Int, z = (low : Int) → IntKind.u64.wrap ((hgh : Int) - z) = (n : Int) := fun z hz => by
    rw [hz, show ((hgh : Int) - (low : Int)) = (n : Int) by omega]
    show (n : Int) % 18446744073709551616 = _
    omega
  go_enter Tryd.func98, Tryd.ntmps98
  go_wp2
  go_region_held3 (fun w' => w'.cell? ⟨gr, 1, none⟩ = some (.int .u64 (b : Int)) ∧ w'.cell? ⟨gr, 2, none⟩ = some (.int .u64 (e : Int)) ∧ Below w.heap.size w w')
    (((try dsimp only); (try go_split_ands); (repeat' apply And.intro) <;> first | (go_keep; done) | exact below_drew (Below.refl _ _) | (refine pw_cell_below hb ?_; assumption) | (refine below_then ?_ ?_ hb; assumption; exact Below.size (by assumption))))
    ((go_at_call 115; have hB0 := Aside0.mk (show Below w.heap.size w _ by go_split_ands; assumption); refine (compact_getMergePath.calls (b : Int) (e : Int) (x : Int) (low : Int) (hgh : Int) _ (Glob.below HG.out (below_sz' HR.out.below ((Below.mono hB0.out HR.out.below.size)))) HMP.out).mono ?_; rintro en w1 ⟨rfl, hd⟩; have hb := hd.below))
  go_split_ands
  have hB1 : Below w.heap.size w w1 := by assumption
  have HR1 := Aside0.mk (HR.out.step hB1)
  have HS1 := Aside0.mk (HS.out.below hB1)
  have HLR1 := Aside0.mk (HLR.out.step (Grows.refl _ _) (KeptS.below hB1))
  have k0 : w1.cell? ⟨gr, 0, none⟩ = some (.pointer (some ⟨gf, 0, none⟩)) := (blk_cell HR1.out.obj 0).trans rfl
  have k2 : w1.cell? ⟨gr, 2, none⟩ = some (.int .u64 (e : Int)) := (blk_cell HR1.out.obj 2).trans rfl
  have k3 : w1.cell? ⟨gr, 3, none⟩ = some (.slice A l.length c) := (blk_cell HR1.out.obj 3).trans rfl
  have t2 : decide ((l.length : Int) < (o : Int)) = false := decide_eq_false (by omega)
  have t2n : decide (l.length < o) = false := decide_eq_false (by omega)
  have t3 : decide ((m.length : Int) < ((n - o : Nat) : Int)) = false := decide_eq_false (by omega)
  have t3n : decide (m.length < n - o) = false := decide_eq_false (by omega)
  have hz1 : ∀ z : Int, z = (n : Int) → wrap64 z = (n : Int) := fun z hz => by rw [hz]; exact w64_in _ (by omega)
  have hz2 : ∀ z : Int, z = (o : Int) → wrap64 ((n : Int) - z) = ((n - o : Nat) : Int) := fun z hz => by rw [hz, w64_in _ (by have := HONN.out; omega)]; have := HONN.out; omega
  go_wp2_with (first
    | (go_at_call 113; (with_reducible refine (bits_OnesCount64.calls _ _ _ HON.out).mono ?_); rintro en w2 ⟨rfl, hd⟩; have HR2 := Aside0.mk (HR1.out.step hd.below); have HS2 := Aside0.mk (HS1.out.below hd.below); have HLR2 := Aside0.mk (HLR1.out.step (Grows.refl _ _) (KeptS.below hd.below)); have HK2 := Aside0.mk (below_then hB1 hB1.size hd.below); have k0 := pw_cell_below hd.below k0; have k2 := pw_cell_below hd.below k2; have k3 := pw_cell_below hd.below k3; clear hd))
  (try simp only [Act.put, List.setIfInBounds_toArray, List.set_cons_zero, List.set_cons_succ])
  obtain ⟨ix0, hix0⟩ : ∃ q : Nat, q = e / 2 ^ low := ⟨_, rfl⟩
  have hix : (e : Int) / 2 ^ low = (ix0 : Int) := by rw [hix0]; push_cast; rfl
  have hixl : ix0 < 18446744073709551616 := by rw [hix0]; exact Nat.lt_of_le_of_lt (Nat.div_le_self _ _) hx
  have eix : ixz = ix0 := by rw [hix0]; exact HIXZ.out
  rw [eix] at HM HO
  clear eix HIXZ
  have HPRE := Aside0.mk (fun t ht => mrO_pre HM.out t ht)
  go_loopg [2, 13, 18, 19, 20] n (fun kq v2 v13 v18 v19 v20 wr => ∃ (j ix p zz : Nat) (s' : List Int) (A' : Option Addr) (c' : Nat) (vs' : Value) (S' : Nat → Prop), j + kq = n ∧ v2 = .slice A' s'.length c' ∧ v13 = .int .u64 (ix : Int) ∧ ix = ix0 / 2 ^ j ∧ v18 = .int .i64 (p : Int) ∧ p + pc j ix0 = l.length ∧ v19 = .int .i64 (zz : Int) ∧ zz + pc j ix0 = j ∧ v20 = .int .u64 ((low + j : Nat) : Int) ∧ Aside0 (s'.length ≤ c') ∧ Aside0 (RSt a0 a1 a2 a3 a4 a5 w0 gr gf gs S' wr (b : Int) (e : Int) (.slice A l.length c) vs' l (n0 + j)) ∧ Aside0 (Safe S' wr A' s') ∧ Aside0 (Grows S S' w) ∧ Aside0 (KeptS S' w wr) ∧ Aside0 (LRow S' wr Am m) ∧ Aside0 (mrO a0 a1 a2 a3 a4 a5 l m ix0 j s = some s'))
  case atStart => exact ⟨0, ix0, l.length, 0, s, As, cs, vs, S, by omega, rfl, by rw [hix], by simp, rfl, rfl, rfl, rfl, rfl, ⟨hsc⟩, HR2, HS2, ⟨Grows.refl _ _⟩, ⟨KeptS.below HK2.out⟩, HLR2, ⟨rfl⟩⟩
  case round =>
    clear k0 k1 k2 k3 HR2 HS2 HK2 HR1 HS1 HR HS HLR2 HLR1 HLR t1 t1n t2 t2n t3 t3n hsub hz1 hz2 hix
    obtain ⟨j, ix, p, zz, s', A', c', vs', S', hjk, rfl, rfl, hixe, rfl, hpl, rfl, hzl, rfl, HSC, HR, HS, HGr, HKp, HLR, HMj⟩ := hrel
    rename World => wr
    have k0 : wr.cell? ⟨gr, 0, none⟩ = some (.pointer (some ⟨gf, 0, none⟩)) := (blk_cell HR.out.obj 0).trans rfl
    have k3 : wr.cell? ⟨gr, 3, none⟩ = some (.slice A l.length c) := (blk_cell HR.out.obj 3).trans rfl
    have kf : wr.cell? ⟨gf, 0, none⟩ = some (.func (.func 53) #[.agg #[.int .i64 a0, .int .i64 a1, .int .i64 a2, .int .u64 a3, .int .u64 a4, .int .u64 a5]] #[]) := (blk_cell HR.out.fac 0).trans rfl
    by_cases hlt : j < n
    · have HJ := Aside0.mk hjk
      have u1 : decide (((low + j : Nat) : Int) < (hgh : Int)) = true := decide_eq_true (by omega)
      have hixl2 : ix < 18446744073709551616 := by rw [hixe]; exact Nat.lt_of_le_of_lt (Nat.div_le_self _ _) hixl
      by_cases hb1 : ix % 2 = 1
      · have u2 : (Go.bits .and .u64 (ix : Int) 1 == 0) = false := beq_eq_false_iff_ne.2 (by
          rw [show (1 : Int) = ((1 : Nat) : Int) from rfl, bits_and_u64_nat ix 1 hixl2 (by omega), Nat.and_one_is_mod, hb1]
          decide)
        have hpb := (pc_both ix0 (j + 1) n (by omega)).1
        have hps := pc_step ix0 j
        rw [← hixe, hb1] at hps
        obtain ⟨q, rfl⟩ : ∃ q, p = q + 1 := ⟨p - 1, by have := HO.out; have := HNL.out; omega⟩
        have HPS := Aside0.mk hps
        have HZL := Aside0.mk hzl
        have HPL := Aside0.mk hpl
        have HIX := Aside0.mk hixe
        have u3 : ∀ z : Int, z = 1 → wrap64 (((q + 1 : Nat) : Int) - z) = (q : Int) := fun z hz => by rw [hz, w64_in _ (by omega)]; omega
        obtain ⟨s2, hs2⟩ := HPRE.out (j + 1) (by omega)
        obtain ⟨hhc, hs2l⟩ := mrO_next HMj.out hs2
        rw [if_pos (by rw [← hixe]; exact hb1), show l.length - 1 - pc j ix0 = q by omega] at hhc
        obtain ⟨ad, cA, Ah, ch, ead, _, hxc, hlh, hsafe⟩ := HR.out.rows.at q (by omega)
        injection ead with ead1 ead2 ead3
        subst ead1 ead3
        generalize l.getD q [] = hsh at hhc hxc hlh hsafe
        have HHC := Aside0.mk hhc
        have HSF := Aside0.mk hsafe
        have HLh := Aside0.mk hlh
        have HS2L := Aside0.mk hs2l
        have HMn := Aside0.mk hs2
        have q0 : (0 : Int) ≤ (q : Int) := by omega
        have q1 : (q : Int) < (l.length : Int) := by omega
        clear hhc hsafe hlh hs2l hs2 hjk hpl hixe hb1 HMj hpb hps hzl
        go_wp2
        go_region_held3 (fun w' => w'.cell? ⟨gr, 0, none⟩ = some (.pointer (some ⟨gf, 0, none⟩)) ∧ w'.cell? ⟨gr, 3, none⟩ = some (.slice (some ad) l.length c) ∧ w'.cell? ⟨gf, 0, none⟩ = some (.func (.func 53) #[.agg #[.int .i64 a0, .int .i64 a1, .int .i64 a2, .int .u64 a3, .int .u64 a4, .int .u64 a5]] #[]) ∧ w'.cell? (ad.add q) = some (.slice Ah hsh.length ch) ∧ Below wr.heap.size wr w')
          (((try dsimp only); (try go_split_ands); (repeat' apply And.intro) <;> first | (go_keep; done) | exact below_drew (Below.refl _ _) | (refine pw_cell_below hb ?_; assumption) | (refine below_then ?_ ?_ hb; assumption; exact Below.size (by assumption))))
          ((go_at_call 53; have hB0 := Aside0.mk (show Below wr.heap.size wr _ by go_split_ands; assumption); refine (impl_toy_HashChildren.calls a0 a1 a2 a3 a4 a5 Ah ch hsh A' c' s' s2 _ (Kd.C_below HSF.out.bytes hB0.out) HLh.out (Kd.C_below HS.out.bytes hB0.out) HSC.out HHC.out).mono ?_; rintro en w3 ⟨v3, rfl, hR3, hb⟩))
        obtain ⟨A3, c3, rfl, hl3, hC3⟩ := Kd.R_reads hR3
        have HR0 := HR.out.step hB0.out
        have HS3 := Aside0.mk (Safe.new (S := S') HR0.top hR3)
        have HR3 := Aside0.mk (HR0.step hb)
        have HK3 := Aside0.mk (HKp.out.trans (Grows.refl _ _) (KeptS.below (S := S') (below_then hB0.out hB0.out.size hb)))
        have HLR3 := Aside0.mk (HLR.out.step (Grows.refl _ _) (KeptS.below (S := S') (below_then hB0.out hB0.out.size hb)))
        have HL3 := Aside0.mk hl3
        clear hR3 hC3 hl3 HR0 hb hB0 HR HS HSC HSF HLh HHC HLR
        have hne := visR_ne gs
        go_split_ands
        go_wp2_with (first
          | (go_at_call 90; (with_reducible refine (compact_NewNodeID.calls _ _ _ _ _ rfl).mono ?_); rintro en w5 ⟨rfl, hb⟩; have HK3 := Aside0.mk (HK3.out.trans (Grows.refl _ _) (KeptS.below (S := S') (HR3.out.below.size |> fun _ => hb))); have HS3 := Aside0.mk (HS3.out.below hb); have HLR3 := Aside0.mk (HLR3.out.step (Grows.refl _ _) (KeptS.below hb)); have HR3 := Aside0.mk (HR3.out.step hb); clear hb)
          | (go_at_call 71; (with_reducible refine (visitR HR3.out _ _ A3 c3 s2 HS3.out HS2L.out (by omega)).mono ?_); rintro en w6 ⟨v0, vs6, S6, rfl, hR6, hG6, hK6⟩; have HR6 := Aside0.mk hR6; have HG6 := Aside0.mk hG6; have HK6 := Aside0.mk hK6; clear hR6 hG6 hK6))
        have HGw : Aside0 (Grows S' S6 w) := ⟨HG6.out.1, fun i hi => (HG6.out.2 i hi).imp id fun h => Nat.le_trans HK3.out.size h⟩
        go_roundg (n - (j + 1))
        case measure => have := HJ.out; omega
        case rel => exact ⟨j + 1, ix / 2, q, zz, s2, A3, c3, vs6, S6, by have := HJ.out; omega, rfl, by rw [show ((ix / 2 : Nat) : Int) = (ix : Int) / 2 by omega], by rw [HIX.out, Nat.div_div_eq_div_mul, ← Nat.pow_succ], rfl, by have := HPL.out; have := HPS.out; omega, rfl, by have := HZL.out; have := HPS.out; omega, by rw [show ((low + (j + 1) : Nat) : Int) = (low : Int) + (j : Int) + 1 by omega], HL3, HR6, ⟨HS3.out.step HG6.out HK6.out⟩, ⟨HGr.out.trans (by exact Nat.le_refl _) HGw.out⟩, ⟨HK3.out.trans HGw.out HK6.out⟩, ⟨HLR3.out.step HG6.out HK6.out⟩, HMn⟩
      · have hb1 : ix % 2 = 0 := by omega
        have u2 : (Go.bits .and .u64 (ix : Int) 1 == 0) = true := beq_iff_eq.2 (by
          rw [show (1 : Int) = ((1 : Nat) : Int) from rfl, bits_and_u64_nat ix 1 hixl2 (by omega), Nat.and_one_is_mod, hb1]
          rfl)
        have hpb := (pc_both ix0 (j + 1) n (by omega)).2
        have hps := pc_step ix0 j
        rw [← hixe, hb1] at hps
        have hzm : zz < m.length := by have := HO.out; have := HNM.out; omega
        have HZM := Aside0.mk hzm
        have HPS := Aside0.mk hps
        have HZL := Aside0.mk hzl
        have HPL := Aside0.mk hpl
        have HIX := Aside0.mk hixe
        have u3 : ∀ z : Int, z = 1 → wrap64 ((zz : Int) + z) = ((zz + 1 : Nat) : Int) := fun z hz => by rw [hz, w64_in _ (by have := HML.out; omega)]; omega
        obtain ⟨s2, hs2⟩ := HPRE.out (j + 1) (by omega)
        obtain ⟨hhc, hs2l⟩ := mrO_next HMj.out hs2
        rw [if_neg (by rw [← hixe]; omega), show j - pc j ix0 = zz by omega] at hhc
        obtain ⟨ad, Ah, ch, ead, hxc, hlh, hsafe, _, _⟩ := HLR.out.get zz hzm
        subst ead
        generalize m.getD zz [] = hsh at hhc hxc hlh hsafe
        have HHC := Aside0.mk hhc
        have HSF := Aside0.mk hsafe
        have HLh := Aside0.mk hlh
        have HS2L := Aside0.mk hs2l
        have HMn := Aside0.mk hs2
        have q0 : (0 : Int) ≤ (zz : Int) := by omega
        have q1 : (zz : Int) < (m.length : Int) := by omega
        clear hhc hsafe hlh hs2l hs2 hjk hpl hixe hb1 HMj hpb hps hzl hzm
        go_wp2
        go_region_held3 (fun w' => w'.cell? ⟨gr, 0, none⟩ = some (.pointer (some ⟨gf, 0, none⟩)) ∧ w'.cell? ⟨gf, 0, none⟩ = some (.func (.func 53) #[.agg #[.int .i64 a0, .int .i64 a1, .int .i64 a2, .int .u64 a3, .int .u64 a4, .int .u64 a5]] #[]) ∧ w'.cell? (ad.add zz) = some (.slice Ah hsh.length ch) ∧ Below wr.heap.size wr w')
          (((try dsimp only); (try go_split_ands); (repeat' apply And.intro) <;> first | (go_keep; done) | exact below_drew (Below.refl _ _) | (refine pw_cell_below hb ?_; assumption) | (refine below_then ?_ ?_ hb; assumption; exact Below.size (by assumption))))
          ((go_at_call 53; have hB0 := Aside0.mk (show Below wr.heap.size wr _ by go_split_ands; assumption); refine (impl_toy_HashChildren.calls a0 a1 a2 a3 a4 a5 A' c' s' Ah ch hsh s2 _ (Kd.C_below HS.out.bytes hB0.out) HSC.out (Kd.C_below HSF.out.bytes hB0.out) HLh.out HHC.out).mono ?_; rintro en w3 ⟨v3, rfl, hR3, hb⟩))
        obtain ⟨A3, c3, rfl, hl3, hC3⟩ := Kd.R_reads hR3
        have HR0 := HR.out.step hB0.out
        have HS3 := Aside0.mk (Safe.new (S := S') HR0.top hR3)
        have HR3 := Aside0.mk (HR0.step hb)
        have HK3 := Aside0.mk (HKp.out.trans (Grows.refl _ _) (KeptS.below (S := S') (below_then hB0.out hB0.out.size hb)))
        have HLR3 := Aside0.mk (HLR.out.step (Grows.refl _ _) (KeptS.below (S := S') (below_then hB0.out hB0.out.size hb)))
        have HL3 := Aside0.mk hl3
        clear hR3 hC3 hl3 HR0 hb hB0 HR HS HSC HSF HLh HHC HLR
        have hne := visR_ne gs
        go_split_ands
        go_wp2_with (first
          | (go_at_call 90; (with_reducible refine (compact_NewNodeID.calls _ _ _ _ _ rfl).mono ?_); rintro en w5 ⟨rfl, hb⟩; have HK3 := Aside0.mk (HK3.out.trans (Grows.refl _ _) (KeptS.below (S := S') (HR3.out.below.size |> fun _ => hb))); have HS3 := Aside0.mk (HS3.out.below hb); have HLR3 := Aside0.mk (HLR3.out.step (Grows.refl _ _) (KeptS.below hb)); have HR3 := Aside0.mk (HR3.out.step hb); clear hb)
          | (go_at_call 71; (with_reducible refine (visitR HR3.out _ _ A3 c3 s2 HS3.out HS2L.out (by omega)).mono ?_); rintro en w6 ⟨v0, vs6, S6, rfl, hR6, hG6, hK6⟩; have HR6 := Aside0.mk hR6; have HG6 := Aside0.mk hG6; have HK6 := Aside0.mk hK6; clear hR6 hG6 hK6))
        have HGw : Aside0 (Grows S' S6 w) := ⟨HG6.out.1, fun i hi => (HG6.out.2 i hi).imp id fun h => Nat.le_trans HK3.out.size h⟩
        go_roundg (n - (j + 1))
        case measure => have := HJ.out; omega
        case rel => exact ⟨j + 1, ix / 2, p, zz + 1, s2, A3, c3, vs6, S6, by have := HJ.out; omega, rfl, by rw [show ((ix / 2 : Nat) : Int) = (ix : Int) / 2 by omega], by rw [HIX.out, Nat.div_div_eq_div_mul, ← Nat.pow_succ], rfl, by have := HPL.out; have := HPS.out; omega, by first | rfl | exact congrArg (Value.int .i64) (u3 1 rfl), by have := HZL.out; have := HPS.out; omega, by rw [show ((low + (j + 1) : Nat) : Int) = (low : Int) + (j : Int) + 1 by omega], HL3, HR6, ⟨HS3.out.step HG6.out HK6.out⟩, ⟨HGr.out.trans (by exact Nat.le_refl _) HGw.out⟩, ⟨HK3.out.trans HGw.out HK6.out⟩, ⟨HLR3.out.step HG6.out HK6.out⟩, HMn⟩
    · have hjn : j = n := by omega
      subst hjn
      have u1 : decide (((low + j : Nat) : Int) < (hgh : Int)) = false := decide_eq_false (by omega)
      have u1n : decide (low + j < hgh) = false := decide_eq_false (by omega)
      go_wp2
      -- TAIL
      obtain ⟨iL, hiL, hsL⟩ := Option.map_eq_some_iff.1 infoL
      have hcut1 : ∀ W : World, (Instr.slice 25 (.slice A l.length c) none (some (.int .i64 (p : Int))) none).run Tryd.prog W = .ok (.slice A p c) W := fun W => by
        have h := cut_to (P := Tryd.prog) 25 28 .i64 Tryd.underlying25 hiL A l.length c (p : Int) (by omega) (by omega) hlc W
        rw [Int.toNat_natCast] at h
        exact h
      have hpo : p + o = l.length := by have := HO.out; omega
      have hzo : zz + o = j := by have := HO.out; omega
      have hzm : zz ≤ m.length := by have := HNM.out; omega
      have hsz1_ : iL.size = 1 := by simp only [Prod.mk.injEq] at hsL; exact hsL.2.1
      obtain ⟨Ah2, hAh2⟩ : ∃ Ah2, Ah2 = (if cm = zz then Am else Am.map (·.add (zz * 1))) := ⟨_, rfl⟩
      obtain ⟨ml2, hml2⟩ : ∃ ml2, ml2 = m.length - zz := ⟨_, rfl⟩
      obtain ⟨mc2, hmc2⟩ : ∃ mc2, mc2 = cm - zz := ⟨_, rfl⟩
      have hcut2 : ∀ W : World, (Instr.slice 25 (.slice Am m.length cm) (some (.int .i64 (zz : Int))) none none).run Tryd.prog W = .ok (.slice Ah2 ml2 mc2) W := fun W => by
        have h := cut_from (P := Tryd.prog) 25 28 .i64 Tryd.underlying25 hiL 1 hsz1_ Am m.length cm (zz : Int) (by omega) (by omega) W
        rw [Int.toNat_natCast] at h
        rw [hAh2, hml2, hmc2]
        exact h
      have HML2 := Aside0.mk hml2
      have HAH2 := Aside0.mk hAh2
      have HPO := Aside0.mk hpo
      have HZO := Aside0.mk hzo
      have HZM := Aside0.mk hzm
      clear hsz1_ hml2 hmc2 hAh2 hpo hzo hzm
      clear hiL hsL
      have HRz := Aside0.mk (HR.out.step (below_drew (Below.refl wr.heap.size wr)))
      have HSz := Aside0.mk (HS.out.below (below_drew (Below.refl wr.heap.size wr)))
      have HKz := Aside0.mk (HKp.out.trans (Grows.refl _ _) (KeptS.below (S := S') (below_drew (Below.refl wr.heap.size wr))))
      have HLz := Aside0.mk (HLR.out.step (Grows.refl _ _) (KeptS.below (S := S') (below_drew (Below.refl wr.heap.size wr))))
      refine start_ (n := 17) (S := fun w' => w'.cell? ⟨gr, 3, none⟩ = some (.slice A l.length c)) (ds := [16]) #[false, false, false, false, false, false, false, false, false, false, false, false, false, false, false, false, false] (by kernel_rfl) rfl rfl ((blk_cell HRz.out.obj 3).trans rfl) (fun hHeld => ?_)
      generalize wr.drew = wz at HRz HSz HKz HLz hHeld ⊢
      clear k0 k3 kf HR HS HKp HLR
      refine pure_ (i := 0) (N := some 131) (v := ?_) (a' := ?_) #[true, false, false, false, false, false, false, false, false, false, false, false, false, false, false, false, false] rfl rfl (by kernel_rfl) (fun _ _ _ h => h) (Or.inl ⟨by rfl, ?_⟩) ?_ ?_
      rotate_left
      · intro w'
        go_simp
        with_reducible rfl
      rotate_left
      · simp only [Act.put, List.setIfInBounds_toArray, List.set_cons_zero, List.set_cons_succ]
        rfl
      refine pure_ (i := 1) (N := some 132) (v := ?_) (a' := ?_) #[true, true, false, false, false, false, false, false, false, false, false, false, false, false, false, false, false] rfl rfl (by kernel_rfl) (fun _ _ _ h => h) (Or.inl ⟨by rfl, ?_⟩) ?_ ?_
      rotate_left
      · intro w'
        go_simp
        with_reducible rfl
      rotate_left
      · simp only [Act.put, List.setIfInBounds_toArray, List.set_cons_zero, List.set_cons_succ]
        rfl
      refine pure_ (i := 2) (N := some 133) (v := ?_) (a' := ?_) #[true, true, true, false, false, false, false, false, false, false, false, false, false, false, false, false, false] rfl rfl (by kernel_rfl) (fun _ _ _ h => h) (Or.inl ⟨by rfl, ?_⟩) ?_ ?_
      rotate_left
      · intro w'
        go_simp
        with_reducible rfl
      rotate_left
      · simp only [Act.put, List.setIfInBounds_toArray, List.set_cons_zero, List.set_cons_succ]
        rfl
      refine pure_ (i := 3) (N := some 134) (v := ?_) (a' := ?_) #[true, true, true, true, false, false, false, false, false, false, false, false, false, false, false, false, false] rfl rfl (by kernel_rfl) (fun _ _ _ h => h) (Or.inl ⟨by rfl, ?_⟩) ?_ ?_
      rotate_left
      · intro w'
        go_simp
        with_reducible rfl
      rotate_left
      · simp only [Act.put, List.setIfInBounds_toArray, List.set_cons_zero, List.set_cons_succ]
        rfl
      refine take_ (i := 4) (N := some 135) (v := ?_) (a' := ?_) #[true, true, true, true, true, false, false, false, false, false, false, false, false, false, false, false, false] rfl rfl (by kernel_rfl) (fun _ _ _ h => h) (Or.inl ⟨by rfl, ?_⟩) hHeld ?_ ?_
      rotate_left
      · intro w' s0
        go_simp
        with_reducible rfl
      rotate_left
      · simp only [Act.put, List.setIfInBounds_toArray, List.set_cons_zero, List.set_cons_succ]
        rfl
      refine pure_ (i := 5) (N := some 136) (v := ?_) (a' := ?_) #[true, true, true, true, true, true, false, false, false, false, false, false, false, false, false, false, false] rfl rfl (by kernel_rfl) (fun _ _ _ h => h) (Or.inl ⟨by rfl, ?_⟩) ?_ ?_
      rotate_left
      · intro w'
        go_simp
        with_reducible rfl
      rotate_left
      · simp only [Act.put, List.setIfInBounds_toArray, List.set_cons_zero, List.set_cons_succ]
        rfl
      refine pure_ (i := 6) (N := some 137) (v := ?_) (a' := ?_) #[true, true, true, true, true, true, true, false, false, false, false, false, false, false, false, false, false] rfl rfl (by kernel_rfl) (fun _ _ _ h => h) (Or.inl ⟨by rfl, ?_⟩) ?_ ?_
      rotate_left
      · intro w'
        go_simp
        with_reducible rfl
      rotate_left
      · simp only [Act.put, List.setIfInBounds_toArray, List.set_cons_zero, List.set_cons_succ]
        rfl
      refine pure_ (i := 7) (N := some 138) (v := ?_) (a' := ?_) #[true, true, true, true, true, true, true, true, false, false, false, false, false, false, false, false, false] rfl rfl (by kernel_rfl) (fun _ _ _ h => h) (Or.inl ⟨by rfl, ?_⟩) ?_ ?_
      rotate_left
      · intro w'
        go_simp
        with_reducible rfl
      rotate_left
      · simp only [Act.put, List.setIfInBounds_toArray, List.set_cons_zero, List.set_cons_succ]
        rfl
      refine pure_ (i := 10) (N := some 141) (v := ?_) (a' := ?_) #[true, true, true, true, true, true, true, true, false, false, true, false, false, false, false, false, false] rfl rfl (by kernel_rfl) (fun _ _ _ h => h) (Or.inl ⟨by rfl, ?_⟩) ?_ ?_
      rotate_left
      · intro w'
        go_simp
        with_reducible rfl
      rotate_left
      · simp only [Act.put, List.setIfInBounds_toArray, List.set_cons_zero, List.set_cons_succ]
        rfl
      refine pure_ (i := 11) (N := some 142) (v := ?_) (a' := ?_) #[true, true, true, true, true, true, true, true, false, false, true, true, false, false, false, false, false] rfl rfl (by kernel_rfl) (fun _ _ _ h => h) (Or.inl ⟨by rfl, ?_⟩) ?_ ?_
      rotate_left
      · intro w'
        go_simp
        with_reducible rfl
      rotate_left
      · simp only [Act.put, List.setIfInBounds_toArray, List.set_cons_zero, List.set_cons_succ]
        rfl
      refine pure_ (i := 12) (N := some 143) (v := ?_) (a' := ?_) #[true, true, true, true, true, true, true, true, false, false, true, true, true, false, false, false, false] rfl rfl (by kernel_rfl) (fun _ _ _ h => h) (Or.inl ⟨by rfl, ?_⟩) ?_ ?_
      rotate_left
      · intro w'
        go_simp
        with_reducible rfl
      rotate_left
      · simp only [Act.put, List.setIfInBounds_toArray, List.set_cons_zero, List.set_cons_succ]
        rfl
      refine one_ (i := 8) (N := some 139) #[true, true, true, true, true, true, true, true, true, false, true, true, true, false, false, false, false] rfl rfl (by kernel_rfl) (by decide) (fun K hK => ?_)
      refine event_step rfl (v := .slice (some ⟨_, 0, none⟩) 1 1) (w1 := World.alloc _ (.cells #[.slice A' s'.length c'] 28)) (by first | (go_simp; done) | (go_simp; rfl) | (go_simp; exact ⟨rfl, rfl⟩)) ?_
      refine hK.out _ _ ((blk_cell (blk_below HRz.out.obj (below_alloc (Below.refl _ _) _)) 3).trans rfl) (fun hHeld => ?_)
      clear hK K
      refine norm_ (a' := ?_) ?_ ?_
      rotate_left
      · show Act.put _ (some 139) _ = _
        simp only [Act.put, List.setIfInBounds_toArray, List.set_cons_zero, List.set_cons_succ]
        rfl
      refine one_ (i := 9) (N := some 140) #[true, true, true, true, true, true, true, true, true, true, true, true, true, false, false, false, false] rfl rfl (by kernel_rfl) (by decide) (fun K hK => ?_)
      refine Kd.R_append_step (kG S' wz) (w0 := w0) w0.heap.size rfl (.tmp 137) (.tmp 139) 25 28 (.slice none 0 0) 24 rfl Tryd.underlying25 infoL rfl Nat.zero_lt_one (by omega) (.slice A p c) (l.take p) s' [.slice A' s'.length c'] (fun _ => True) (fun _ => False) rfl rfl ⟨A', c', rfl, HSC.out, HSz.out⟩ (fun _ h => h.elim) (fun _ _ => trivial) (Kd.R_take HRz.out.rows.row (by omega)) HRz.out.below HRz.out.below.size (by rw [List.length_take]; omega) ?_
      intro v1 w1 hR1 hB1 hG1 hA1
      have eqo : (Value.slice A p c).ownBlock = (Value.slice A l.length c).ownBlock := by cases A <;> rfl
      rw [eqo] at hG1 hA1
      have hz0 := lt_of_block HRz.out.obj
      have hne3 : some gr ≠ (Value.slice A l.length c).ownBlock := fun he => (HRz.out.rown gr he.symm).2.2 rfl
      have hobj1 := (hG1.block gr hz0 hne3).trans HRz.out.obj
      refine hK.out _ _ ((blk_cell hobj1 3).trans rfl) (fun hHeld => ?_)
      clear hK K
      refine norm_ (a' := ?_) ?_ ?_
      rotate_left
      · show Act.put _ (some 140) _ = _
        simp only [Act.put, List.setIfInBounds_toArray, List.set_cons_zero, List.set_cons_succ]
        rfl
      refine one_ (i := 13) (N := some 144) #[true, true, true, true, true, true, true, true, true, true, true, true, true, true, false, false, false] rfl rfl (by kernel_rfl) (by decide) (fun K hK => ?_)
      have hrd := lreads (w1 := w1) HLz.out zz cm HZM.out HMC.out (by have := HML.out; omega) (fun ad _ hn hlt => hG1.block ad.block hlt (fun he => hn (HRz.out.rows.own _ he.symm)))
      rw [← HAH2.out, ← HML2.out] at hrd
      refine Kd.R_append_rows_step (kG S' wz) (Rr := fun (x : List Int) cs => ∃ A' c', cs = [.slice A' x.length c'] ∧ x.length ≤ c' ∧ Safe S' wz A' x) (w0 := w0) w0.heap.size rfl (.tmp 140) (.tmp 143) 25 28 (.slice none 0 0) 24 rfl Tryd.underlying25 infoL rfl Nat.zero_lt_one (by omega) v1 (l.take p ++ [s']) (m.drop zz) Ah2 ml2 mc2 (fun _ => True) (fun _ => False) rfl rfl hR1 hrd (fun _ _ h => h) (fun _ h => h.elim) (fun _ _ => trivial) hB1 (hB1.size) (by rw [List.length_append, List.length_take, List.length_singleton]; have := HML.out; have := HLL.out; have := HML2.out; omega) ?_
      intro v2 w2' hR2 hB2 hG2 hA2
      have hsz1 : wz.heap.size ≤ w1.heap.size := hG1.size
      have hsz2 : w1.heap.size ≤ w2'.heap.size := hG2.size
      have own1 : ∀ q, q < wz.heap.size → some q ≠ (Value.slice A l.length c).ownBlock → some q ≠ v1.ownBlock := fun q hq hne he => by
        rcases hA1 with h1 | ⟨b1, h1, h2⟩
        · exact hne (he.trans h1)
        · rw [h1] at he
          injection he with he
          omega
      have hG12 : ∀ q, q < wz.heap.size → some q ≠ (Value.slice A l.length c).ownBlock → w2'.heap[q]? = wz.heap[q]? := fun q hq hne => (hG2.block q (by omega) (own1 q hq hne)).trans (hG1.block q hq hne)
      have hA12 : v2.ownBlock = (Value.slice A l.length c).ownBlock ∨ ∃ q, v2.ownBlock = some q ∧ wz.heap.size ≤ q := by
        rcases hA2 with h1 | ⟨b1, h1, h2⟩
        · rcases hA1 with h3 | ⟨b3, h3, h4⟩
          · exact .inl (h1.trans h3)
          · exact .inr ⟨b3, h1.trans h3, h4⟩
        · exact .inr ⟨b1, h1, by omega⟩
      have hobj2 := (hG12 gr hz0 hne3).trans HRz.out.obj
      obtain ⟨hP1, hP2, hP3⟩ := HRz.out.put hR2 hG12 (Nat.le_trans hsz1 hsz2) hB2 hA12 (x : Int)
      obtain ⟨Av, cv, rfl⟩ := Kd.R_slice hR2
      refine hK.out _ _ ((blk_cell hobj2 3).trans rfl) (fun hHeld => ?_)
      clear hK K
      refine norm_ (a' := ?_) ?_ ?_
      rotate_left
      · show Act.put _ (some 144) _ = _
        simp only [Act.put, List.setIfInBounds_toArray, List.set_cons_zero, List.set_cons_succ]
        rfl
      refine pure_ (i := 14) (N := some 145) (v := ?_) (a' := ?_) #[true, true, true, true, true, true, true, true, true, true, true, true, true, true, true, false, false] rfl rfl (by kernel_rfl) (fun _ _ _ h => h) (Or.inl ⟨by rfl, ?_⟩) ?_ ?_
      rotate_left
      · intro w'
        go_simp
        with_reducible rfl
      rotate_left
      · simp only [Act.put, List.setIfInBounds_toArray, List.set_cons_zero, List.set_cons_succ]
        rfl
      refine pure_ (i := 15) (N := some 146) (v := ?_) (a' := ?_) #[true, true, true, true, true, true, true, true, true, true, true, true, true, true, true, true, false] rfl rfl (by kernel_rfl) (fun _ _ _ h => h) (Or.inl ⟨by rfl, ?_⟩) ?_ ?_
      rotate_left
      · intro w'
        go_simp
        with_reducible rfl
      rotate_left
      · simp only [Act.put, List.setIfInBounds_toArray, List.set_cons_zero, List.set_cons_succ]
        rfl
      have hc3 : w2'.cell? ⟨gr, 3, none⟩ = some (.slice A l.length c) := (blk_cell hobj2 3).trans rfl
      have hf3 : w2'.frozen? ⟨gr, 3, none⟩ = false := blk_frozen hobj2 3
      clear hHeld
      refine last_ (i := 16) (N := none) #[true, true, true, true, true, true, true, true, true, true, true, true, true, true, true, true, true] rfl rfl (by kernel_rfl) (by simp) (fun K hK => ?_)
      refine store_step rfl (w1 := w2'.setCell ⟨gr, 3, none⟩ (.slice Av (l.take p ++ [s'] ++ m.drop zz).length cv)) (by first | (go_simp; done) | (go_simp; rfl) | (go_simp; exact ⟨rfl, rfl⟩)) ?_
      refine hK.out _ _ ?_
      clear hK K
      refine norm_ (a' := ?_) ?_ ?_
      rotate_left
      · show Act.put _ none _ = _
        first | rfl | (simp only [Act.put]; rfl) | simp only [Act.put]
      refine done_ (by kernel_rfl) ?_
      have hobj3 := blk_set hobj2 3 (.slice Av (l.take p ++ [s'] ++ m.drop zz).length cv)
      have hc2 : (w2'.setCell ⟨gr, 3, none⟩ (.slice Av (l.take p ++ [s'] ++ m.drop zz).length cv)).cell? ⟨gr, 2, none⟩ = some (.int .u64 (e : Int)) := (blk_cell hobj3 2).trans (by simp)
      have hf2 : (w2'.setCell ⟨gr, 3, none⟩ (.slice Av (l.take p ++ [s'] ++ m.drop zz).length cv)).frozen? ⟨gr, 2, none⟩ = false := blk_frozen hobj3 2
      generalize (w2'.setCell ⟨gr, 3, none⟩ (.slice Av (l.take p ++ [s'] ++ m.drop zz).length cv)) = w9 at hP1 hP3 hc2 hf2 ⊢
      have HP1 := Aside0.mk hP1
      have HP3 := Aside0.mk hP3
      have HP2 := Aside0.mk hP2
      clear hP1 hP2 hP3 hobj1 hobj2 hobj3 hc3 hf3 hG12 hA12 hG1 hA1 hB1 hR1 hG2 hA2 hB2 hR2 own1 hne3 eqo hrd
      go_wp2
      go_ret
      have est : s' = t := Option.some.inj (HMj.out.symm.trans HM.out)
      have ep : l.length - o = p := by have := HPO.out; omega
      have ez : j - o = zz := by have := HZO.out; omega
      have hGw : Grows S' _ w := ⟨HP2.out.1, fun i hi => (HP2.out.2 i hi).imp id fun h => Nat.le_trans HKz.out.size h⟩
      rw [ep, ez, ← est]
      exact ⟨_, _, _, rfl, HP1.out, HGr.out.trans (Nat.le_refl _) hGw, HKz.out.trans hGw HP3.out⟩
end Go.Proofs.YtfhcpniibiobgaaDoor.Qf
