/- impl.Append, walked. -/
import Derived.Test.YtfhcpniibiobgaaDoorJh
import Derived.Deep.RegionHeld3
namespace Go.Proofs.YtfhcpniibiobgaaDoor.Qf
open Go.RowKit Go.Proofs.YtfhcpniibiobgaaDoorW.PrintWords Go.Proofs.YtfhcpniibiobgaaDoorW.PrintLast Go.Proofs.YtfhcpniibiobgaaDoorW.PrintMore
open Hs (CB CL at_L at_B infoB infoL R_of_blk)

theorem mf1 (first : Value) (W : World) : (Instr.makeFunc (.func 53) #[first] #[]).run Tryd.prog W = .ok (.func (.func 53) #[first] #[]) W := rfl
theorem mfA (cap : Value) (W : World) : (Instr.makeFunc (.func 64) #[] #[cap]).run Tryd.prog W = .ok (.func (.func 64) #[] #[cap]) W := rfl
theorem four_allocs (w : World) (o1 : Obj) (c2 : Array Value) (t2 : Nat) (c3 : Array Value) (t3 : Nat) (c4 : Array Value) (t4 : Nat) : Below w.heap.size w ((((w.alloc o1).alloc (.cells c2 t2)).alloc (.cells c3 t3)).alloc (.cells c4 t4)) ∧ ((((w.alloc o1).alloc (.cells c2 t2)).alloc (.cells c3 t3)).alloc (.cells c4 t4)).heap[w.heap.size + 1]? = some (.cells c2 t2 (0, 0)) ∧ ((((w.alloc o1).alloc (.cells c2 t2)).alloc (.cells c3 t3)).alloc (.cells c4 t4)).heap[w.heap.size + 1 + 1]? = some (.cells c3 t3 (0, 0)) ∧ ((((w.alloc o1).alloc (.cells c2 t2)).alloc (.cells c3 t3)).alloc (.cells c4 t4)).heap[w.heap.size + 1 + 1 + 1]? = some (.cells c4 t4 (0, 0)) := by
  have s1 : (w.alloc o1).heap.size = w.heap.size + 1 := by simp
  have s2 : ((w.alloc o1).alloc (.cells c2 t2)).heap.size = w.heap.size + 1 + 1 := by simp
  have s3 : (((w.alloc o1).alloc (.cells c2 t2)).alloc (.cells c3 t3)).heap.size = w.heap.size + 1 + 1 + 1 := by simp
  refine ⟨below_alloc (below_alloc (below_alloc (below_alloc (Below.refl _ _) _) _) _) _, ?_, ?_, ?_⟩
  · have h := blk_below (heap_alloc_new (w.alloc o1) (.cells c2 t2)) (below_alloc (below_alloc (Below.refl _ _) (.cells c3 t3)) (.cells c4 t4))
    rwa [s1] at h
  · have h := blk_below (heap_alloc_new ((w.alloc o1).alloc (.cells c2 t2)) (.cells c3 t3)) (below_alloc (Below.refl _ _) (.cells c4 t4))
    rwa [s2] at h
  · have h := heap_alloc_new (((w.alloc o1).alloc (.cells c2 t2)).alloc (.cells c3 t3)) (.cells c4 t4)
    rwa [s3] at h
/-- All that was seen, leaf by leaf. -/
def visA (vl : Nat → List Vis) : Nat → List Vis
  | 0 => []
  | j + 1 => visA vl j ++ vl j
/-- What was seen, to be read; it lies in no block below g. -/
structure SeenAt (g : Nat) (w : World) (A : Option Addr) (V : List Vis) : Prop where
  get : ∀ j, j < V.length → ∃ ad A0 c0, A = some ad ∧ w.cell? (ad.add (j * 3)) = some (.int .u64 (V.getD j (0, 0, [])).1) ∧ w.cell? (ad.add (j * 3 + 1)) = some (.int .u64 (V.getD j (0, 0, [])).2.1) ∧ w.cell? (ad.add (j * 3 + 2)) = some (.slice A0 (V.getD j (0, 0, [])).2.2.length c0) ∧ (V.getD j (0, 0, [])).2.2.length ≤ c0 ∧ CB w A0 (V.getD j (0, 0, [])).2.2 ∧ g ≤ ad.block ∧ Far g A0 (V.getD j (0, 0, [])).2.2
theorem SeenAt.below {g : Nat} {w w' : World} {A : Option Addr} {V : List Vis} (h : SeenAt g w A V) (hb : Below w.heap.size w w') : SeenAt g w' A V := ⟨fun j hj => by
  obtain ⟨ad, A0, c0, e0, e1, e2, e3, e4, e5, e6⟩ := h.get j hj
  exact ⟨ad, A0, c0, e0, pw_cell_below hb e1, pw_cell_below hb e2, pw_cell_below hb e3, e4, Kd.C_below e5 hb, e6⟩⟩
theorem cell_frame {w w' : World} {ad : Addr} (n : Nat) (h : w'.heap[ad.block]? = w.heap[ad.block]?) : w'.cell? (ad.add n) = w.cell? (ad.add n) := by
  unfold World.cell?
  rw [show (ad.add n).block = ad.block by unfold Addr.add; split <;> rfl, h]
theorem SeenAt.set {g : Nat} {w : World} {A : Option Addr} {V : List Vis} (h : SeenAt g w A V) (q i : Nat) (hq : q < g) (v : Value) : SeenAt g (w.setCell ⟨q, i, none⟩ v) A V := ⟨fun j hj => by
  obtain ⟨ad, A0, c0, e0, e1, e2, e3, e4, e5, e6, e7⟩ := h.get j hj
  have hm : ∀ k, g ≤ k → (w.setCell ⟨q, i, none⟩ v).heap[k]? = w.heap[k]? := fun k hk => Below.heap_setCell _ _ _ k (by simp; omega)
  exact ⟨ad, A0, c0, e0, (cell_frame _ (hm _ e6)).trans e1, (cell_frame _ (hm _ e6)).trans e2, (cell_frame _ (hm _ e6)).trans e3, e4, CB_frame e5 fun hp a ea => hm _ (e7 hp a ea), e6, e7⟩⟩
theorem SeenAt.mono {g g' : Nat} {w : World} {A : Option Addr} {V : List Vis} (h : SeenAt g w A V) (hg : g' ≤ g) : SeenAt g' w A V := ⟨fun j hj => by
  obtain ⟨ad, A0, c0, e0, e1, e2, e3, e4, e5, e6, e7⟩ := h.get j hj
  exact ⟨ad, A0, c0, e0, e1, e2, e3, e4, e5, by omega, fun hp a ea => by have := e7 hp a ea; omega⟩⟩
theorem SeenAt.of {g : Nat} {S : Nat → Prop} {w0 w : World} {base : Nat} {ok : Nat → Prop} {A : Option Addr} {n c : Nat} {V : List Vis} (h : (kW g S w0).R 58 w base ok (.slice A n c) V) (hb : Below w0.heap.size w0 w) (hg : g ≤ base) : n = V.length ∧ SeenAt g w A V := by
  obtain ⟨h1, h2, hC⟩ := Kd.R_reads' h
  refine ⟨h1, ⟨fun j hj => ?_⟩⟩
  obtain ⟨ad, cs, ea, _, hK, hc0⟩ := Kd.C_get hC (0, 0, []) (j : Int) (by omega) (by omega)
  simp only [Int.toNat_natCast] at hK hc0
  have hc : ∀ i u, cs[i]? = some u → w.cell? (ad.add (j * 3 + i)) = some u := hc0
  obtain ⟨A0, c0, rfl, l0, g0, f0⟩ := hK
  have hbk : base ≤ ad.block := Kd.R_base h _ (by rw [ea]; rfl)
  exact ⟨ad, A0, c0, ea, by simpa using hc 0 _ rfl, hc 1 _ rfl, hc 2 _ rfl, l0, Kd.C_below g0.bytes hb, by omega, f0⟩
set_option maxHeartbeats 4000000 in
set_option maxRecDepth 100000 in
theorem append_calls (a0 a1 a2 a3 a4 a5 : Int) (b e : Nat) (A : Option Addr) (c : Nat) (l0 : List (List Int)) (Am : Option Addr) (cm : Nat) (M : List (List Int)) (ls : Nat → List (List Int)) (vl : Nat → List Vis) (k : Nat) (w : World) (hc : l0.length ≤ c) (hcm : M.length ≤ cm) (hl : CL w A l0) (hM : CL w Am M) (HG_ : Glob w) (ht0 : impl_texts.f k l0 = some l0) (htM : impl_texts.f k M = some M) (hte : impl_texts.f k (ls M.length) = some (ls M.length)) (hbe : b ≤ e) (hsz : compact_RangeSize.f (b : Int) (e : Int) = some (l0.length : Int)) (he : e + M.length < 18446744073709551616) (hl0 : l0.length ≤ 300) (hMl : M.length ≤ 300) (hMr : ∀ j, j < M.length → (M.getD j []).length ≤ 140737488351232) (hs0 : ls 0 = l0) (hst : ∀ j, j < M.length → MStep a0 a1 a2 a3 a4 a5 b (e + j) (ls j) (M.getD j []) (ls (j + 1)) (vl j)) (hsl : ∀ j, j ≤ M.length → (ls j).length ≤ 500) (hvl : ∀ j, j ≤ M.length → (visA vl j).length + (ls j).length ≤ 900) :
    Calls Tryd.prog 26 #[.agg #[.int .i64 a0, .int .i64 a1, .int .i64 a2, .int .u64 a3, .int .u64 a4, .int .u64 a5], .agg #[.int .u64 (b : Nat), .int .u64 (e : Nat), .slice A l0.length c], .slice Am M.length cm] w fun en w' => ∃ v Av cv, en = .returned (.tuple #[.agg #[.int .u64 (b : Nat), .int .u64 ((e + M.length : Nat) : Int), v], .slice Av (visA vl M.length).length cv, .bool true]) ∧ SeenAt w.heap.size w' Av (visA vl M.length) ∧ Kd.S (Kd.slice 5 (Kd.int .u8)) 28 w' w.heap.size (fun _ => True) v (ls M.length) ∧ Below w.heap.size w w' := by
  have HL := Aside0.mk hl
  have HM := Aside0.mk hM
  have HG := Aside0.mk HG_
  have HT0 := Aside0.mk ht0
  have HTM := Aside0.mk htM
  have HTE := Aside0.mk hte
  have HSZ := Aside0.mk hsz
  have HE := Aside0.mk he
  have HMR := Aside0.mk hMr
  have HS0 := Aside0.mk hs0
  have HST := Aside0.mk hst
  have HSL := Aside0.mk hsl
  have HBE := Aside0.mk hbe
  have HL0 := Aside0.mk hl0
  have HMLn := Aside0.mk hMl
  have HVL := Aside0.mk hvl
  clear hvl
  clear hl hM HG_ ht0 htM hte hsz he hMr hs0 hst hsl hbe hl0 hMl
  have hmf1 := mf1
  have hmfA := mfA
  go_enter Tryd.func26, Tryd.ntmps26
  go_wp2
  obtain ⟨hB1, hRB, hQB, hFB⟩ := four_allocs w (.cells #[.int .i64 a0, .int .i64 a1, .int .i64 a2, .int .u64 a3, .int .u64 a4, .int .u64 a5] 24) #[.int .u64 (b : Nat), .int .u64 (e : Nat), .slice A l0.length c] 35 #[.int .u64 0, .int .u64 0, .slice none 0 0] 35 #[.func (.func 53) #[.agg #[.int .i64 a0, .int .i64 a1, .int .i64 a2, .int .u64 a3, .int .u64 a4, .int .u64 a5]] #[]] 100
  generalize hW1 : ((((w.alloc (.cells #[.int .i64 a0, .int .i64 a1, .int .i64 a2, .int .u64 a3, .int .u64 a4, .int .u64 a5] 24)).alloc (.cells #[.int .u64 (b : Nat), .int .u64 (e : Nat), .slice A l0.length c] 35)).alloc (.cells #[.int .u64 0, .int .u64 0, .slice none 0 0] 35)).alloc (.cells #[.func (.func 53) #[.agg #[.int .i64 a0, .int .i64 a1, .int .i64 a2, .int .u64 a3, .int .u64 a4, .int .u64 a5]] #[]] 100)) = W1 at hB1 hRB hQB hFB ⊢
  have hsz1 : w.heap.size + 1 + 1 + 1 < W1.heap.size := lt_of_block hFB
  have HB1 := Aside0.mk hB1
  have RB := Aside0.mk hRB
  have QB := Aside0.mk hQB
  have FB := Aside0.mk hFB
  clear hB1 hRB hQB hFB hW1
  have HL1 := Aside0.mk (Kd.C_below HL.out HB1.out)
  have r0 : W1.cell? ⟨w.heap.size + 1, 0, none⟩ = some (.int .u64 (b : Nat)) := (blk_cell RB.out 0).trans rfl
  have r1 : W1.cell? ⟨w.heap.size + 1, 1, none⟩ = some (.int .u64 (e : Nat)) := (blk_cell RB.out 1).trans rfl
  have r2 : W1.cell? ⟨w.heap.size + 1, 2, none⟩ = some (.slice A l0.length c) := (blk_cell RB.out 2).trans rfl
  go_region_held3 (fun w' => w'.cell? ⟨w.heap.size + 1, 0, none⟩ = some (.int .u64 (b : Nat)) ∧ w'.cell? ⟨w.heap.size + 1, 1, none⟩ = some (.int .u64 (e : Nat)) ∧ w'.cell? ⟨w.heap.size + 1, 2, none⟩ = some (.slice A l0.length c) ∧ Below W1.heap.size W1 w')
    (((try dsimp only); (try go_split_ands); (repeat' apply And.intro) <;> first | (go_keep; done) | exact below_drew (Below.refl _ _) | (refine pw_cell_below hb ?_; assumption) | (refine below_then ?_ ?_ hb; assumption; exact Below.size (by assumption))))
    (first
      | (go_at_call 48; have hB0 := Aside0.mk (show Below W1.heap.size W1 _ by go_split_ands; assumption); refine (impl_texts.calls k A c l0 l0 _ (Kd.C_below HL1.out hB0.out) hc HT0.out).mono ?_; rintro e' w2 ⟨v1, rfl, hS, hb⟩; obtain ⟨B2, d2, rfl, _, _⟩ := Kd.S_reads hS; have HS2 := Aside0.mk (Kd.S_lower hS hB0.out.size); have HB2 := Aside0.mk (below_then hB0.out hB0.out.size hb); clear hS)
      | (go_at_call 54; refine (newRange_calls (w.heap.size + 1 + 1 + 1) b e B2 l0.length d2 HBE.out HSZ.out _).mono ?_; rintro e' w3 ⟨g, rfl, hg1, hg2, hg3, hb⟩; have HG1 := Aside0.mk hg1; have HG2 := Aside0.mk hg2; have HG3 := Aside0.mk hg3; have HB23 := Aside0.mk hb; clear hg3 hg1 hg2))
  go_split_ands
  clear r0 r1 r2
  have HB3 : Aside0 (Below W1.heap.size W1 w3) := ⟨by assumption⟩
  have HI := Aside0.mk (RSt.init HB1.out FB.out HS2.out HB2.out HG1.out HG2.out HG3.out HB23.out)
  have HNG : Aside0 (¬ (w.heap.size + 1 + 1 = g ∨ w.heap.size + 1 + 1 = w3.heap.size ∨ (Value.slice B2 l0.length d2).ownBlock = some (w.heap.size + 1 + 1))) := ⟨fun hk => by
    have q1 := HG1.out
    have q2 := HB2.out.size
    have q3 := HB23.out.size
    rcases hk with h1 | h1 | hk
    · omega
    · omega
    · have := Kd.S_base HS2.out _ hk
      omega⟩
  have HGL : Aside0 (w.heap.size + 1 + 1 < w3.heap.size) := ⟨by have := HB2.out.size; have := HB23.out.size; omega⟩
  have QB3 := Aside0.mk (blk_below (blk_below QB.out HB3.out) (below_alloc (Below.refl w3.heap.size w3) (.cells #[.slice none 0 0] 37)))
  have HBw := Aside0.mk (below_then HB1.out HB1.out.size (below_step HB3.out (below_alloc (Below.refl w3.heap.size w3) (.cells #[.slice none 0 0] 37))))
  have hsize : (w3.alloc (.cells #[.slice none 0 0] 37)).heap.size = w3.heap.size + 1 := by simp
  go_wp2_with (first
    | (go_at_call 48; (with_reducible refine (impl_texts.calls k Am cm M M _ (Kd.C_below HM.out HBw.out) hcm HTM.out).mono ?_); rintro e' w5 ⟨v5, rfl, hS, hb⟩; obtain ⟨B5, d5, rfl, hd5, hLR⟩ := LRow.new HI.out.top hS; have HLR := Aside0.mk hLR; have HI5 := Aside0.mk (HI.out.step hb); have QB5 := Aside0.mk (blk_below QB3.out hb); clear hS hb hLR))
  (try simp only [Act.put, List.setIfInBounds_toArray, List.set_cons_zero, List.set_cons_succ])
  generalize hgq : w.heap.size + 1 + 1 = gq at HNG QB5 HGL ⊢
  have hgq0 : w.heap.size ≤ gq := by omega
  generalize w3.heap.size = gs at HI5 HLR HNG HI HGL hsize ⊢
  go_loopg [38] M.length (fun kq v38 wr => ∃ (j : Nat) (S' : Nat → Prop) (vr' vs' : Value), j + kq = M.length ∧ v38 = .int .i64 (j : Nat) ∧ Aside0 (RSt a0 a1 a2 a3 a4 a5 w g (w.heap.size + 1 + 1 + 1) gs S' wr (b : Int) ((e + j : Nat) : Int) vr' vs' (ls j) (visA vl j)) ∧ Aside0 (LRow S' wr B5 M) ∧ Aside0 (¬ S' gq) ∧ Aside0 (wr.heap[gq]? = some (.cells #[.int .u64 0, .int .u64 0, .slice none 0 0] 35 (0, 0))))
  case atStart => exact ⟨0, _, _, _, by omega, rfl, by rw [HS0.out]; exact HI5, HLR, HNG, QB5⟩
  case round =>
    clear HLR QB5 HI5 HI HNG QB3 hsize
    obtain ⟨j, S', vr', vs', hj, rfl, HR, HLR, HNG, QB5⟩ := hrel
    rename World => wr
    by_cases hlt : j < M.length
    · obtain ⟨ad, A0, c0, ead, hx, hxl, hsf, _, _⟩ := HLR.out.get j hlt
      subst ead
      have HST1 := Aside0.mk (HST.out j hlt)
      have HXL := Aside0.mk (HMR.out j hlt)
      generalize M.getD j [] = s at HST1 HXL hx hxl hsf
      have HSF := Aside0.mk hsf
      have HSC := Aside0.mk hxl
      have HJL := Aside0.mk (HSL.out j (by omega))
      clear hsf hxl
      have hbound := Aside0.mk (HVL.out j (by omega))
      have hj0 : (0 : Int) ≤ (j : Int) := by omega
      have hjM : (j : Int) < (M.length : Int) := by omega
      go_wp2_with (first
        | (go_at_call 63; (with_reducible refine (HST1.out.calls A0 c0 HR.out HSF.out HSC.out HXL.out HG.out (by have := HE.out; omega) HJL.out hbound.out).mono ?_); rintro en w6 ⟨vr6, vs6, S6, rfl, hR6, hG6, hK6⟩; have HR6 := Aside0.mk hR6; have HLR6 := Aside0.mk (HLR.out.step hG6 hK6); have HNG6 : Aside0 (¬ S6 gq) := ⟨fun hs => by (rcases hG6.2 _ hs with h1 | h1); (exact HNG.out h1); have := lt_of_block QB5.out; omega⟩; have QB6 := Aside0.mk ((hK6.block gq (lt_of_block QB5.out) HNG6.out).trans QB5.out); clear hR6 hG6 hK6))
      go_roundg (M.length - (j + 1))
      case measure => omega
      case rel =>
        have hM300 := HMLn.out
        exact ⟨j + 1, S6, vr6, vs6, by omega, congrArg (Value.int .i64) ((w64_in _ (by omega)).trans (by omega)), by rw [show ((e + (j + 1) : Nat) : Int) = ((e + j : Nat) : Int) + 1 by omega]; exact HR6, HLR6, HNG6, QB6⟩
    · obtain rfl : j = M.length := by omega
      go_wp2
      have HTx := HTE
      -- TAIL
      have HRy := Aside0.mk (HR.out.step (below_drew (Below.refl wr.heap.size wr)))
      have QBy := Aside0.mk (blk_drew QB5.out)
      obtain ⟨Avs, nvs, cvs, hvse⟩ := kV_slice HRy.out.srow
      subst hvse
      obtain ⟨hnv, hSA⟩ := SeenAt.of HRy.out.srow (Below.refl _ _) (Nat.le_succ gs)
      subst hnv
      have HSA := Aside0.mk hSA
      clear hSA
      generalize hE : ((e + M.length : Nat) : Int) = E at HRy
      have HEq := Aside0.mk hE
      clear hE
      refine start_ (n := 6) (S := fun w' => w'.cell? ⟨gs, 0, none⟩ = some (.slice Avs (visA vl M.length).length cvs)) (ds := []) #[false, false, false, false, false, false] (by kernel_rfl) rfl rfl ((blk_cell HRy.out.seen 0).trans rfl) (fun hHeld => ?_)
      generalize wr.drew = wz at HRy QBy HSA hHeld ⊢
      clear HR QB5 HLR
      obtain ⟨Ar, cr, hvr, hcr, hCL⟩ := HRy.out.rows.cl
      subst hvr
      have HCL := Aside0.mk hCL
      have HCR := Aside0.mk hcr
      clear hCL hcr
      refine pure_ (i := 0) (N := some 50) (v := ?_) (a' := ?_) #[true, false, false, false, false, false] rfl rfl (by kernel_rfl) (fun _ _ _ h => h) (Or.inl ⟨by rfl, ?_⟩) ?_ ?_
      rotate_left
      · intro w'
        go_simp
        with_reducible rfl
      rotate_left
      · simp only [Act.put, List.setIfInBounds_toArray, List.set_cons_zero, List.set_cons_succ]
        rfl
      refine take_ (i := 2) (N := some 52) (v := ?_) (a' := ?_) #[true, false, true, false, false, false] rfl rfl (by kernel_rfl) (fun _ _ _ h => h) (Or.inl ⟨by rfl, ?_⟩) hHeld ?_ ?_
      rotate_left
      · intro w' s0
        go_simp
        with_reducible rfl
      rotate_left
      · simp only [Act.put, List.setIfInBounds_toArray, List.set_cons_zero, List.set_cons_succ]
        rfl
      refine one_ (i := 1) (N := some 51) #[true, true, true, false, false, false] rfl rfl (by kernel_rfl) (by decide) (fun K hK => ?_)
      refine goes_ Tryd.func65 (by kernel_rfl) rfl #[.pointer (some ⟨g, 0, none⟩)] (by rfl) rfl rfl (by (try simp only [List.map_toArray, List.map_cons, List.map_nil]); first | done | rfl) ?_
      refine (fromRange_calls g _ (b : Int) E Ar cr (ls M.length) k _ HRy.out.obj HCL.out HCR.out HTE.out).mono ?_
      rintro e' w7 ⟨v7, rfl, hS7, hb⟩
      refine ⟨_, rfl, ?_⟩
      obtain ⟨A7, d7, rfl, _, _⟩ := Kd.S_reads hS7
      have SN7 := Aside0.mk (blk_below HRy.out.seen hb)
      have Q7 := Aside0.mk (blk_below QBy.out hb)
      have HSA7 := Aside0.mk (HSA.out.below hb)
      have B7 := Aside0.mk (below_step HRy.out.below hb)
      have HS7 := Aside0.mk (Kd.S_lower hS7 HRy.out.below.size)
      have HGQ : Aside0 (gs ≠ gq) := ⟨fun he => HNG.out (he ▸ HRy.out.sseen)⟩
      clear hS7 hb HRy QBy HCL HCR HSA
      refine hK.out _ _ ((blk_cell SN7.out 0).trans rfl) (fun hHeld => ?_)
      clear hK K
      refine norm_ (a' := ?_) ?_ ?_
      rotate_left
      · show Act.put _ (some 51) _ = _
        simp only [Act.put, List.setIfInBounds_toArray, List.set_cons_zero, List.set_cons_succ]
        rfl
      have c0 : w7.cell? ⟨gq, 0, none⟩ = some (.int .u64 0) := (blk_cell Q7.out 0).trans rfl
      have c1 : w7.cell? ⟨gq, 1, none⟩ = some (.int .u64 0) := (blk_cell Q7.out 1).trans rfl
      have c2 : w7.cell? ⟨gq, 2, none⟩ = some (.slice none 0 0) := (blk_cell Q7.out 2).trans rfl
      have f0 : w7.frozen? ⟨gq, 0, none⟩ = false := blk_frozen Q7.out 0
      have SK5 := Aside0.mk (by simpa using blk_set Q7.out 0 (.int .u64 (b : Int)))
      have f1 : (w7.setCell ⟨gq, 0, none⟩ (.int .u64 (b : Int))).frozen? ⟨gq, 1, none⟩ = false := blk_frozen SK5.out 1
      have SK6 := Aside0.mk (by simpa using blk_set SK5.out 1 (.int .u64 E))
      have f2 : ((w7.setCell ⟨gq, 0, none⟩ (.int .u64 (b : Int))).setCell ⟨gq, 1, none⟩ (.int .u64 E)).frozen? ⟨gq, 2, none⟩ = false := blk_frozen SK6.out 2
      have SK7 := Aside0.mk (by simpa using blk_set SK6.out 2 (.slice A7 (ls M.length).length d7))
      have g0 : (((w7.setCell ⟨gq, 0, none⟩ (.int .u64 (b : Int))).setCell ⟨gq, 1, none⟩ (.int .u64 E)).setCell ⟨gq, 2, none⟩ (.slice A7 (ls M.length).length d7)).cell? ⟨gq, 0, none⟩ = some (.int .u64 (b : Int)) := (blk_cell SK7.out 0).trans rfl
      have g1 : (((w7.setCell ⟨gq, 0, none⟩ (.int .u64 (b : Int))).setCell ⟨gq, 1, none⟩ (.int .u64 E)).setCell ⟨gq, 2, none⟩ (.slice A7 (ls M.length).length d7)).cell? ⟨gq, 1, none⟩ = some (.int .u64 E) := (blk_cell SK7.out 1).trans rfl
      have g2 : (((w7.setCell ⟨gq, 0, none⟩ (.int .u64 (b : Int))).setCell ⟨gq, 1, none⟩ (.int .u64 E)).setCell ⟨gq, 2, none⟩ (.slice A7 (ls M.length).length d7)).cell? ⟨gq, 2, none⟩ = some ((.slice A7 (ls M.length).length d7)) := (blk_cell SK7.out 2).trans rfl
      have s3 : (((w7.setCell ⟨gq, 0, none⟩ (.int .u64 (b : Int))).setCell ⟨gq, 1, none⟩ (.int .u64 E)).setCell ⟨gq, 2, none⟩ (.slice A7 (ls M.length).length d7)).cell? ⟨gs, 0, none⟩ = some (.slice Avs (visA vl M.length).length cvs) := (blk_cell ((Below.heap_setCell _ _ _ gs HGQ.out).trans ((Below.heap_setCell _ _ _ gs HGQ.out).trans ((Below.heap_setCell _ _ _ gs HGQ.out).trans SN7.out))) 0).trans rfl
      clear hHeld
      refine one_ (i := 3) (N := none) #[true, true, true, true, false, false] rfl rfl (by kernel_rfl) (by decide) (fun K hK => ?_)
      refine store_step rfl (w1 := (((w7.setCell ⟨gq, 0, none⟩ (.int .u64 (b : Int))).setCell ⟨gq, 1, none⟩ (.int .u64 E)).setCell ⟨gq, 2, none⟩ (.slice A7 (ls M.length).length d7))) (by first | (go_simp; done) | (go_simp; rfl) | (go_simp; exact ⟨rfl, rfl⟩)) ?_
      refine hK.out _ _ s3 (fun hHeld => ?_)
      clear hK K
      refine norm_ (a' := ?_) ?_ ?_
      rotate_left
      · show Act.put _ none _ = _
        first | rfl | (simp only [Act.put]; rfl) | simp only [Act.put]
      refine pure_ (i := 4) (N := some 7) (v := ?_) (a' := ?_) #[true, true, true, true, true, false] rfl rfl (by kernel_rfl) (fun _ _ _ h => h) (Or.inl ⟨by rfl, ?_⟩) ?_ ?_
      rotate_left
      · intro w'
        go_simp
        with_reducible rfl
      rotate_left
      · simp only [Act.put, List.setIfInBounds_toArray, List.set_cons_zero, List.set_cons_succ]
        rfl
      refine pure_ (i := 5) (N := some 8) (v := ?_) (a' := ?_) #[true, true, true, true, true, true] rfl rfl (by kernel_rfl) (fun _ _ _ h => h) (Or.inl ⟨by rfl, ?_⟩) ?_ ?_
      rotate_left
      · intro w'
        go_simp
        with_reducible rfl
      rotate_left
      · simp only [Act.put, List.setIfInBounds_toArray, List.set_cons_zero, List.set_cons_succ]
        rfl
      refine done_ (by kernel_rfl) ?_
      try go_wp2
      refine bodyPost_ret (v := .tuple #[.agg #[.int .u64 (b : Int), .int .u64 E, (.slice A7 (ls M.length).length d7)], .slice Avs (visA vl M.length).length cvs, .bool true]) (by simp [results, Tryd.results26, go_sem, g0, g1, g2]) rfl ⟨_, _, _, by rw [HEq.out], ?_, ?_, ?_⟩
      · exact ((HSA7.out.set gq 0 HGL.out _).set gq 1 HGL.out _).set gq 2 HGL.out _ |>.mono (by have := HGL.out; omega)
      · exact Kd.S_set (Kd.S_set (Kd.S_set HS7.out Q7.out (by decide) 0 _) SK5.out (by decide) 1 _) SK6.out (by decide) 2 _
      · exact Below.setCell (Below.setCell (Below.setCell B7.out hgq0 _) hgq0 _) hgq0 _
end Go.Proofs.YtfhcpniibiobgaaDoor.Qf
