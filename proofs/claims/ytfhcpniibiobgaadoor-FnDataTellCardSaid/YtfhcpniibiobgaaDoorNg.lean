/- The tree's getNodes, walked (printed by gen_ng.py). -/
import Derived.Test.YtfhcpniibiobgaaDoorNf
namespace Go.Proofs.YtfhcpniibiobgaaDoor.Qf
open Go.RowKit Go.Proofs.YtfhcpniibiobgaaDoorW.PrintWords Go.Proofs.YtfhcpniibiobgaaDoorW.PrintLast Go.Proofs.YtfhcpniibiobgaaDoorW.PrintMore
open Hs (CB CL at_L at_B infoB infoL R_of_blk)

/-- The hash of a node. -/
abbrev nodeF (rows : List (List (List Int))) (x : S108) : List Int := (rows.getD x.f0.toNat []).getD x.f1.toNat []
set_option maxHeartbeats 4000000 in
set_option maxRecDepth 100000 in
theorem getNodes_calls (T : Value) (w0 : World) (gt : Nat) (S : Nat → Prop) (w : World) (n : Int) (vh : Value) (rv : List RV) (rows : List (List (List Int))) (Ai : Option Addr) (ci : Nat) (ids : List S108) (h : TSt T w0 gt S w n vh rv rv rows) (hI : Kd.C k108 w Ai ids.length ids) (hl : ids.length ≤ 1000) (hp : 0 < ids.length) (hok : ∀ i, i < ids.length → ∃ lv ix : Nat, ids.getD i z108 = ⟨(lv : Int), (ix : Int)⟩ ∧ lv < rows.length ∧ ix < (rows.getD lv []).length) :
    Calls Tryd.prog 104 #[.pointer (some ⟨gt, 0, none⟩), .slice Ai ids.length ci] w fun en w' => ∃ A c, en = .returned (.slice A ids.length c) ∧ ids.length ≤ c ∧ CL w' A (ids.map (nodeF rows)) ∧ Below w.heap.size w w' := by
  have HT := Aside0.mk h
  have HI := Aside0.mk hI
  have HOK := Aside0.mk hok
  have HLl := Aside0.mk hl
  obtain ⟨go, cap, hvh, hcap⟩ := h.form (by obtain ⟨lv, _, _, h1, _⟩ := hok 0 hp; omega)
  subst hvh
  clear h hI hok hcap
  have HP := Aside0.mk hp
  clear hp
  have ht0 : (0 : Int) ≤ (ids.length : Int) := by omega
  go_enter Tryd.func104, Tryd.ntmps104
  go_wp2_with (first
    | ((with_reducible refine gate_dst (N := 10) rfl ?_); refine Kd.R_make kO (w0 := w) w.heap.size 28 rfl (N := 10) rfl 25 (.tmp 9) (.tmp 9) rfl (ids.length : Int) rfl rfl Tryd.underlying25 (.slice none 0 0) 24 infoL rfl Nat.zero_lt_one (by omega) z0 (ok := fun _ => True) (okp := fun _ => False) rfl (fun _ h => h.elim) trivial ht0 (by rw [Int.toNat_natCast]; have := HLl.out; omega) (Below.refl _ _) (Nat.le_refl _) ?_; intro v1 w1 hR hB hG hO; rw [Int.toNat_natCast] at hR; have HR1 := Aside0.mk hR; have HB1 := Aside0.mk hB; clear hR hB hG hO))
  obtain ⟨gr, capr, hv1, _⟩ := Kd.R_form HR1.out (by rw [List.length_replicate]; exact HP.out)
  subst hv1
  have hlr : (List.replicate ids.length z0).length = ids.length := List.length_replicate
  rw [hlr] at HR1 ⊢
  clear hlr
  (try simp only [Act.put, List.setIfInBounds_toArray, List.set_cons_zero, List.set_cons_succ])
  go_loopg [13] ids.length (fun kq v13 wr => ∃ (j : Nat) (hv : List RV), j + kq = ids.length ∧ v13 = .int .i64 (j : Nat) ∧ Aside0 (kO.R 28 wr w.heap.size (fun _ => True) (.slice (some ⟨gr, 0, none⟩) ids.length capr) hv) ∧ Aside0 (hv.length = ids.length) ∧ Aside0 (∀ i, i < j → ∃ A c, hv.getD i z0 = (A, (nodeF rows (ids.getD i z108)).length, c) ∧ (nodeF rows (ids.getD i z108)).length ≤ c ∧ Safe S w A (nodeF rows (ids.getD i z108))) ∧ Aside0 (Below w.heap.size w wr))
  case atStart => exact ⟨0, List.replicate ids.length z0, by omega, rfl, HR1, ⟨List.length_replicate⟩, ⟨fun i hi => by omega⟩, HB1⟩
  case round =>
    clear HR1 HB1
    obtain ⟨j, hv, hj, rfl, HR, HVL, HA, HB⟩ := hrel
    rename World => wr
    by_cases hlt : j < ids.length
    · obtain ⟨lv, ix, hid, hlv, hix⟩ := HOK.out j hlt
      have HTr := Aside0.mk (HT.out.step HB.out)
      obtain ⟨Ar, cr, hrv, hcr⟩ := HTr.out.rowv lv hlv
      have hcl := (HTr.out.cells rfl lv hlv).1
      have hrow := HTr.out.row lv hlv
      rw [hrv] at hcl hrow
      obtain ⟨ad, cx, Ah, ch, hsl, _, hx, hlh, hsafe⟩ := hrow.at ix hix
      injection hsl with e1 _ e3
      subst e1 e3
      have hcl : wr.cell? ⟨go, lv, none⟩ = some (.slice (some ad) (rows.getD lv []).length cr) := hcl
      obtain ⟨ad2, e2, hi0, hi1⟩ := at_T108 (Kd.C_below HI.out HB.out) (j : Int) (by omega) (by omega)
      cases e2
      have hrd : rd_T108 ids (j : Int) = ⟨(lv : Int), (ix : Int)⟩ := by
        show ids.getD (j : Int).toNat z108 = _
        rw [Int.toNat_natCast]
        exact hid
      rw [hrd] at hi0 hi1
      rw [Int.toNat_natCast] at hi0 hi1
      dsimp only at hi0 hi1
      have hnode : nodeF rows (ids.getD j z108) = (rows.getD lv []).getD ix [] := by rw [hid]; rfl
      have HND := Aside0.mk hnode
      have HLV : Aside0 (lv < rows.length) := ⟨hlv⟩
      -- the hash is safe in the elder world
      obtain ⟨Ar', cr', hrv', _⟩ := HT.out.rowv lv hlv
      have hrow0 := HT.out.row lv hlv
      rw [hrv] at hrow0
      obtain ⟨ad0, cx0, Ah0, ch0, hsl0, _, hx0, hlh0, hsafe0⟩ := hrow0.at ix hix
      injection hsl0 with e1 _ e3
      injection e1 with e1
      subst e1 e3
      have hxx := pw_cell_below HB.out hx0
      rw [hx] at hxx
      injection hxx with hxx
      injection hxx with hx1 _ hx3
      subst hx1 hx3
      clear hsafe hlh hrv' hx0 hrow hrow0 hrd hnode hid hcr hrv
      generalize hrl : (rows.getD lv []).length = L0 at hcl hix
      generalize (rows.getD lv []).getD ix [] = hsh at hx hlh0 hsafe0 HND
      have HSF := Aside0.mk hsafe0
      have HLH := Aside0.mk hlh0
      clear hsafe0 hlh0 hrl hlv
      have hj0 : (0 : Int) ≤ (j : Int) := by omega
      have hj1 : (j : Int) < (ids.length : Int) := by omega
      have hl0 : (0 : Int) ≤ (lv : Int) := by omega
      have hl1 : (lv : Int) < (rows.length : Int) := by have := HLV.out; omega
      have hx0 : (0 : Int) ≤ (ix : Int) := by omega
      have hx1 : (ix : Int) < (L0 : Int) := by omega
      have HJL : Aside0 (j < ids.length) := ⟨hlt⟩
      go_wp2
      have hb3 : Below wr.heap.size wr (wr.alloc (.cells #[.int .u64 (lv : Int), .int .u64 (ix : Int)] 108)).drew := below_drew (below_alloc (Below.refl _ _) _)
      have HBX := Aside0.mk (blk_drew (heap_alloc_new wr (.cells #[.int .u64 (lv : Int), .int .u64 (ix : Int)] 108)))
      have HTz := Aside0.mk (HTr.out.step hb3)
      have HRz := Aside0.mk (Kd.R_below HR.out hb3)
      have HBz := Aside0.mk (below_step HB.out hb3)
      have hclz := pw_cell_below hb3 hcl
      have hxz := pw_cell_below hb3 hx
      refine start_ (n := 16) (S := fun w' => w'.cell? ⟨gt, 2, none⟩ = some (.slice (some ⟨go, 0, none⟩) rows.length cap) ∧ w'.cell? ⟨wr.heap.size, 0, none⟩ = some (.int .u64 (lv : Int)) ∧ w'.cell? ⟨go, lv, none⟩ = some (.slice (some ad) L0 cr) ∧ w'.cell? ⟨wr.heap.size, 1, none⟩ = some (.int .u64 (ix : Int)) ∧ w'.cell? (ad.add ix) = some (.slice Ah hsh.length ch)) (ds := [15]) #[false, false, false, false, false, false, false, false, false, false, false, false, false, false, false, false] (by kernel_rfl) rfl rfl ⟨(blk_cell HTz.out.obj 2).trans rfl, (blk_cell HBX.out 0).trans rfl, hclz, (blk_cell HBX.out 1).trans rfl, hxz⟩ (fun hHeld => ?_)
      generalize (wr.alloc (.cells #[.int .u64 (lv : Int), .int .u64 (ix : Int)] 108)).drew = wz at HTz HRz HBz hclz hxz HBX hHeld ⊢
      clear hb3 hcl hx hi0 hi1 HTr HR HB
      refine pure_ (i := 0) (N := some 18) (v := ?_) (a' := ?_) #[true, false, false, false, false, false, false, false, false, false, false, false, false, false, false, false] rfl rfl (by kernel_rfl) (fun _ _ _ h => h) (Or.inl ⟨by rfl, ?_⟩) ?_ ?_
      rotate_left
      · intro w'
        go_simp
        with_reducible rfl
      rotate_left
      · simp only [Act.put, List.setIfInBounds_toArray, List.set_cons_zero, List.set_cons_succ]
        rfl
      refine pure_ (i := 1) (N := some 19) (v := ?_) (a' := ?_) #[true, true, false, false, false, false, false, false, false, false, false, false, false, false, false, false] rfl rfl (by kernel_rfl) (fun _ _ _ h => h) (Or.inl ⟨by rfl, ?_⟩) ?_ ?_
      rotate_left
      · intro w'
        go_simp
        with_reducible rfl
      rotate_left
      · simp only [Act.put, List.setIfInBounds_toArray, List.set_cons_zero, List.set_cons_succ]
        rfl
      refine pure_ (i := 2) (N := some 20) (v := ?_) (a' := ?_) #[true, true, true, false, false, false, false, false, false, false, false, false, false, false, false, false] rfl rfl (by kernel_rfl) (fun _ _ _ h => h) (Or.inl ⟨by rfl, ?_⟩) ?_ ?_
      rotate_left
      · intro w'
        go_simp
        with_reducible rfl
      rotate_left
      · simp only [Act.put, List.setIfInBounds_toArray, List.set_cons_zero, List.set_cons_succ]
        rfl
      refine pure_ (i := 3) (N := some 21) (v := ?_) (a' := ?_) #[true, true, true, true, false, false, false, false, false, false, false, false, false, false, false, false] rfl rfl (by kernel_rfl) (fun _ _ _ h => h) (Or.inl ⟨by rfl, ?_⟩) ?_ ?_
      rotate_left
      · intro w'
        go_simp
        with_reducible rfl
      rotate_left
      · simp only [Act.put, List.setIfInBounds_toArray, List.set_cons_zero, List.set_cons_succ]
        rfl
      refine pure_ (i := 4) (N := some 22) (v := ?_) (a' := ?_) #[true, true, true, true, true, false, false, false, false, false, false, false, false, false, false, false] rfl rfl (by kernel_rfl) (fun _ _ _ h => h) (Or.inl ⟨by rfl, ?_⟩) ?_ ?_
      rotate_left
      · intro w'
        go_simp
        with_reducible rfl
      rotate_left
      · simp only [Act.put, List.setIfInBounds_toArray, List.set_cons_zero, List.set_cons_succ]
        rfl
      refine take_ (i := 5) (N := some 23) (v := ?_) (a' := ?_) #[true, true, true, true, true, true, false, false, false, false, false, false, false, false, false, false] rfl rfl (by kernel_rfl) (fun _ _ _ h => h) (Or.inl ⟨by rfl, ?_⟩) hHeld ?_ ?_
      rotate_left
      · rintro w' ⟨s0, s1, s2, s3, s4⟩
        go_simp
        with_reducible rfl
      rotate_left
      · simp only [Act.put, List.setIfInBounds_toArray, List.set_cons_zero, List.set_cons_succ]
        rfl
      refine pure_ (i := 6) (N := some 24) (v := ?_) (a' := ?_) #[true, true, true, true, true, true, true, false, false, false, false, false, false, false, false, false] rfl rfl (by kernel_rfl) (fun _ _ _ h => h) (Or.inl ⟨by rfl, ?_⟩) ?_ ?_
      rotate_left
      · intro w'
        go_simp
        with_reducible rfl
      rotate_left
      · simp only [Act.put, List.setIfInBounds_toArray, List.set_cons_zero, List.set_cons_succ]
        rfl
      refine take_ (i := 7) (N := some 25) (v := ?_) (a' := ?_) #[true, true, true, true, true, true, true, true, false, false, false, false, false, false, false, false] rfl rfl (by kernel_rfl) (fun _ _ _ h => h) (Or.inl ⟨by rfl, ?_⟩) hHeld ?_ ?_
      rotate_left
      · rintro w' ⟨s0, s1, s2, s3, s4⟩
        go_simp
        with_reducible rfl
      rotate_left
      · simp only [Act.put, List.setIfInBounds_toArray, List.set_cons_zero, List.set_cons_succ]
        rfl
      refine pure_ (i := 8) (N := some 26) (v := ?_) (a' := ?_) #[true, true, true, true, true, true, true, true, true, false, false, false, false, false, false, false] rfl rfl (by kernel_rfl) (fun _ _ _ h => h) (Or.inl ⟨by rfl, ?_⟩) ?_ ?_
      rotate_left
      · intro w'
        go_simp
        with_reducible rfl
      rotate_left
      · simp only [Act.put, List.setIfInBounds_toArray, List.set_cons_zero, List.set_cons_succ]
        rfl
      refine take_ (i := 9) (N := some 27) (v := ?_) (a' := ?_) #[true, true, true, true, true, true, true, true, true, true, false, false, false, false, false, false] rfl rfl (by kernel_rfl) (fun _ _ _ h => h) (Or.inl ⟨by rfl, ?_⟩) hHeld ?_ ?_
      rotate_left
      · rintro w' ⟨s0, s1, s2, s3, s4⟩
        go_simp
        with_reducible rfl
      rotate_left
      · simp only [Act.put, List.setIfInBounds_toArray, List.set_cons_zero, List.set_cons_succ]
        rfl
      refine pure_ (i := 10) (N := some 28) (v := ?_) (a' := ?_) #[true, true, true, true, true, true, true, true, true, true, true, false, false, false, false, false] rfl rfl (by kernel_rfl) (fun _ _ _ h => h) (Or.inl ⟨by rfl, ?_⟩) ?_ ?_
      rotate_left
      · intro w'
        go_simp
        with_reducible rfl
      rotate_left
      · simp only [Act.put, List.setIfInBounds_toArray, List.set_cons_zero, List.set_cons_succ]
        rfl
      refine take_ (i := 11) (N := some 29) (v := ?_) (a' := ?_) #[true, true, true, true, true, true, true, true, true, true, true, true, false, false, false, false] rfl rfl (by kernel_rfl) (fun _ _ _ h => h) (Or.inl ⟨by rfl, ?_⟩) hHeld ?_ ?_
      rotate_left
      · rintro w' ⟨s0, s1, s2, s3, s4⟩
        go_simp
        with_reducible rfl
      rotate_left
      · simp only [Act.put, List.setIfInBounds_toArray, List.set_cons_zero, List.set_cons_succ]
        rfl
      refine pure_ (i := 12) (N := some 30) (v := ?_) (a' := ?_) #[true, true, true, true, true, true, true, true, true, true, true, true, true, false, false, false] rfl rfl (by kernel_rfl) (fun _ _ _ h => h) (Or.inl ⟨by rfl, ?_⟩) ?_ ?_
      rotate_left
      · intro w'
        go_simp
        with_reducible rfl
      rotate_left
      · simp only [Act.put, List.setIfInBounds_toArray, List.set_cons_zero, List.set_cons_succ]
        rfl
      refine take_ (i := 13) (N := some 31) (v := ?_) (a' := ?_) #[true, true, true, true, true, true, true, true, true, true, true, true, true, true, false, false] rfl rfl (by kernel_rfl) (fun _ _ _ h => h) (Or.inl ⟨by rfl, ?_⟩) hHeld ?_ ?_
      rotate_left
      · rintro w' ⟨s0, s1, s2, s3, s4⟩
        go_simp
        with_reducible rfl
      rotate_left
      · simp only [Act.put, List.setIfInBounds_toArray, List.set_cons_zero, List.set_cons_succ]
        rfl
      refine pure_ (i := 14) (N := some 32) (v := ?_) (a' := ?_) #[true, true, true, true, true, true, true, true, true, true, true, true, true, true, true, false] rfl rfl (by kernel_rfl) (fun _ _ _ h => h) (Or.inl ⟨by rfl, ?_⟩) ?_ ?_
      rotate_left
      · intro w'
        go_simp
        with_reducible rfl
      rotate_left
      · simp only [Act.put, List.setIfInBounds_toArray, List.set_cons_zero, List.set_cons_succ]
        rfl
      obtain ⟨hcs, hfs⟩ := Kd.R_celln z0 HRz.out (j : Int) hj0 hj1
      rw [Int.toNat_natCast] at hcs hfs
      have hput := Kd.R_putn HRz.out (j : Int) ((Ah, hsh.length, ch) : RV)
      rw [Int.toNat_natCast] at hput
      have hgr0 := Kd.R_base HRz.out gr rfl
      clear hHeld
      refine last_ (i := 15) (N := none) #[true, true, true, true, true, true, true, true, true, true, true, true, true, true, true, true] rfl rfl (by kernel_rfl) (by simp) (fun K hK => ?_)
      refine store_step rfl (w1 := wz.setCell ⟨gr, j, none⟩ (.slice Ah hsh.length ch)) (by first | (go_simp; done) | (go_simp; rfl) | (go_simp; exact ⟨rfl, rfl⟩)) ?_
      refine hK.out _ _ ?_
      clear hK K
      refine norm_ (a' := ?_) ?_ ?_
      rotate_left
      · show Act.put _ none _ = _
        first | rfl | (simp only [Act.put]; rfl) | simp only [Act.put]
      refine done_ (by kernel_rfl) ?_
      have HP2 := Aside0.mk hput
      have HB2 : Aside0 (Below w.heap.size w (wz.setCell ⟨gr, j, none⟩ (.slice Ah hsh.length ch))) := ⟨Below.setCell HBz.out hgr0 _⟩
      have HA2 : Aside0 (∀ i, i < j + 1 → ∃ A c, (hv.set j ((Ah, hsh.length, ch) : RV)).getD i z0 = (A, (nodeF rows (ids.getD i z108)).length, c) ∧ (nodeF rows (ids.getD i z108)).length ≤ c ∧ Safe S w A (nodeF rows (ids.getD i z108))) := ⟨fun i hi => by
        by_cases e : j = i
        · subst e
          rw [getD_set_self _ _ _ _ (by rw [HVL.out]; exact HJL.out), HND.out]
          exact ⟨_, _, rfl, HLH.out, HSF.out⟩
        · rw [getD_set_ne _ _ _ _ _ e]
          exact HA.out i (by omega)⟩
      have HVL2 : Aside0 ((hv.set j ((Ah, hsh.length, ch) : RV)).length = ids.length) := ⟨by rw [List.length_set]; exact HVL.out⟩
      clear hput hcs hfs hgr0 HRz HTz HBz hclz hxz HBX
      generalize (wz.setCell ⟨gr, j, none⟩ (.slice Ah hsh.length ch)) = w9 at HP2 HB2 ⊢
      have hj64 : ∀ z : Int, z = 1 → wrap64 ((j : Int) + z) = ((j + 1 : Nat) : Int) := fun z hz => by rw [hz, w64_in _ (by have := HLl.out; omega)]; omega
      go_wp2
      go_roundg (ids.length - (j + 1))
      case measure =>
        clear hj64
        omega
      case rel =>
        have hv2 := hj64 1 rfl
        have hj2 : j + 1 + (ids.length - (j + 1)) = ids.length := by clear hv2 hj64; omega
        exact ⟨j + 1, _, hj2, by first | rfl | exact congrArg (Value.int .i64) hv2, HP2, HVL2, HA2, HB2⟩
    · obtain rfl : j = ids.length := by omega
      go_wp2
      go_ret
      have hcp : ids.length ≤ capr := by
        obtain ⟨A, c, e2, hl2, _⟩ := Kd.R_reads HR.out
        injection e2 with _ _ e3
        rw [HVL.out] at hl2
        omega
      refine ⟨_, _, rfl, hcp, ?_, HB.out⟩
      refine ⟨by rw [List.length_map], by rw [List.length_map]; have := HLl.out; omega, fun _ => ⟨⟨gr, 0, none⟩, rfl, fun i q hi => ?_⟩⟩
      obtain ⟨hil, hiq⟩ := List.getElem?_eq_some_iff.1 hi
      rw [List.length_map] at hil
      rw [List.getElem_map] at hiq
      have hget : ids.getD i z108 = ids[i] := by rw [List.getD_eq_getElem?_getD, List.getElem?_eq_getElem hil]; rfl
      obtain ⟨A, c, e1, e2, e3⟩ := HA.out i hil
      rw [hget, hiq] at e1 e2 e3
      have hcs := (Kd.R_celln z0 HR.out (i : Int) (by omega) (by omega)).1
      rw [Int.toNat_natCast] at hcs
      have e4 : rdOf z0 hv (i : Int) = (A, q.length, c) := by
        show hv.getD (i : Int).toNat z0 = _
        rw [Int.toNat_natCast]
        exact e1
      rw [e4] at hcs
      refine ⟨_, rfl, ⟨A, c, rfl, e2, Kd.C_below e3.bytes HB.out⟩, fun u x hu => ?_⟩
      rcases u with _ | u
      · obtain rfl := Option.some.inj hu
        have ha : ∀ q : Nat, (⟨gr, 0, none⟩ : Addr).add q = ⟨gr, q, none⟩ := fun q => by
          simp [Addr.add]
          intro h0
          exact h0.symm
        show wr.cell? ((⟨gr, 0, none⟩ : Addr).add (i * 1 + 0)) = _
        rw [Nat.mul_one, Nat.add_zero, ha]
        exact hcs
      · simp at hu
end Go.Proofs.YtfhcpniibiobgaaDoor.Qf
