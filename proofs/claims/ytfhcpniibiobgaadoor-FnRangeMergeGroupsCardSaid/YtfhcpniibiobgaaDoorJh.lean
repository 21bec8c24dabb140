/- Several texts, joined. -/
import Derived.Test.YtfhcpniibiobgaaDoorGe
import Derived.Lib.Builder
namespace Go.Proofs.YtfhcpniibiobgaaDoor.Qf
open Go.RowKit Go.Proofs.YtfhcpniibiobgaaDoorW.PrintWords Go.Proofs.YtfhcpniibiobgaaDoorW.PrintLast Go.Proofs.YtfhcpniibiobgaaDoorW.PrintMore
open Hs (CB CL at_L at_B infoB infoL R_of_blk)

theorem Rows.cl {S : Nat → Prop} {w : World} {base : Nat} {v : Value} {l : List (List Int)} (h : Rows S w base v l) : ∃ A c, v = .slice A l.length c ∧ l.length ≤ c ∧ CL w A l := by
  obtain ⟨A, c, e, hl, hC⟩ := Kd.R_reads h.row
  exact ⟨A, c, e, hl, ReadsRow.imp_ hC (Below.refl _ _) fun _ _ ⟨A', c', e1, e2, e3⟩ => ⟨A', c', e1, e2, e3.bytes⟩⟩

set_option maxHeartbeats 1000000 in
set_option maxRecDepth 100000 in
theorem rBegin_calls (gr : Nat) (v0 v1 v2 v3 : Value) (w : World) (h : w.heap[gr]? = some (.cells #[v0, v1, v2, v3] 151 (0, 0))) :
    Calls Tryd.prog 99 #[.pointer (some ⟨gr, 0, none⟩)] w fun en w' => en = .returned v1 ∧ Below w.heap.size w w' := by
  have k1 : w.cell? ⟨gr, 1, none⟩ = some v1 := (blk_cell h 1).trans rfl
  clear h
  go_enter Tryd.func99, Tryd.ntmps99
  go_wp2
  go_ret
  exact ⟨rfl, Below.refl _ _⟩
set_option maxHeartbeats 1000000 in
set_option maxRecDepth 100000 in
theorem rEnd_calls (gr : Nat) (v0 v1 v2 v3 : Value) (w : World) (h : w.heap[gr]? = some (.cells #[v0, v1, v2, v3] 151 (0, 0))) :
    Calls Tryd.prog 100 #[.pointer (some ⟨gr, 0, none⟩)] w fun en w' => en = .returned v2 ∧ Below w.heap.size w w' := by
  have k1 : w.cell? ⟨gr, 2, none⟩ = some v2 := (blk_cell h 2).trans rfl
  clear h
  go_enter Tryd.func100, Tryd.ntmps100
  go_wp2
  go_ret
  exact ⟨rfl, Below.refl _ _⟩
set_option maxHeartbeats 1000000 in
set_option maxRecDepth 100000 in
theorem rHashes_calls (gr : Nat) (v0 v1 v2 v3 : Value) (w : World) (h : w.heap[gr]? = some (.cells #[v0, v1, v2, v3] 151 (0, 0))) :
    Calls Tryd.prog 101 #[.pointer (some ⟨gr, 0, none⟩)] w fun en w' => en = .returned v3 ∧ Below w.heap.size w w' := by
  have k1 : w.cell? ⟨gr, 3, none⟩ = some v3 := (blk_cell h 3).trans rfl
  clear h
  go_enter Tryd.func101, Tryd.ntmps101
  go_wp2
  go_ret
  exact ⟨rfl, Below.refl _ _⟩

set_option maxHeartbeats 2000000 in
set_option maxRecDepth 100000 in
theorem fromRange_calls (gr : Nat) (v0 : Value) (b e : Int) (A : Option Addr) (c : Nat) (l : List (List Int)) (k : Nat) (w : World) (h : w.heap[gr]? = some (.cells #[v0, .int .u64 b, .int .u64 e, .slice A l.length c] 151 (0, 0))) (hl : CL w A l) (hc : l.length ≤ c) (htx : impl_texts.f k l = some l) :
    Calls Tryd.prog 65 #[.pointer (some ⟨gr, 0, none⟩)] w fun en w' => ∃ v, en = .returned (.agg #[.int .u64 b, .int .u64 e, v]) ∧ Kd.S (Kd.slice 5 (Kd.int .u8)) 28 w' w.heap.size (fun _ => True) v l ∧ Below w.heap.size w w' := by
  have RB := Aside0.mk h
  have HL := Aside0.mk hl
  have HTX := Aside0.mk htx
  clear h hl htx
  go_enter Tryd.func65, Tryd.ntmps65
  have HB0 := Aside0.mk (below_alloc (Below.refl w.heap.size w) (.cells #[.int .u64 0, .int .u64 0, .slice none 0 0] 35))
  have SK := Aside0.mk (heap_alloc_new w (.cells #[.int .u64 0, .int .u64 0, .slice none 0 0] 35))
  go_wp2_with (first
    | (go_at_call 99; (with_reducible refine (rBegin_calls gr v0 _ _ _ _ (blk_below RB.out HB0.out)).mono ?_); rintro en w1 ⟨rfl, hb⟩; have HB1 := Aside0.mk (below_then HB0.out HB0.out.size hb); have SK1 := Aside0.mk (blk_below SK.out hb); clear hb)
    | (go_at_call 100; (with_reducible refine (rEnd_calls gr v0 _ _ _ _ (blk_below RB.out HB1.out)).mono ?_); rintro en w2 ⟨rfl, hb⟩; have HB2 := Aside0.mk (below_then HB1.out HB1.out.size hb); have SK2 := Aside0.mk (blk_below SK1.out hb); clear hb)
    | (go_at_call 101; (with_reducible refine (rHashes_calls gr v0 _ _ _ _ (blk_below RB.out HB2.out)).mono ?_); rintro en w3 ⟨rfl, hb⟩; have HB3 := Aside0.mk (below_then HB2.out HB2.out.size hb); have SK3 := Aside0.mk (blk_below SK2.out hb); clear hb)
    | (go_at_call 48; (with_reducible refine (impl_texts.calls k A c l l _ (Kd.C_below HL.out HB3.out) hc HTX.out).mono ?_); rintro e' w4 ⟨v1, rfl, hS, hb⟩; obtain ⟨B4, d4, rfl, _, _⟩ := Kd.S_reads hS; have HS4 := Aside0.mk (Kd.S_lower hS HB3.out.size); have HB4 := Aside0.mk (below_then HB3.out HB3.out.size hb); have SK4 := Aside0.mk (blk_below SK3.out hb); have c0 : w4.cell? ⟨w.heap.size, 0, none⟩ = some (.int .u64 0) := (blk_cell SK4.out 0).trans rfl; have c1 : w4.cell? ⟨w.heap.size, 1, none⟩ = some (.int .u64 0) := (blk_cell SK4.out 1).trans rfl; have c2 : w4.cell? ⟨w.heap.size, 2, none⟩ = some (.slice none 0 0) := (blk_cell SK4.out 2).trans rfl; clear hS hb; have f0 : w4.frozen? ⟨w.heap.size, 0, none⟩ = false := blk_frozen SK4.out 0; have SK5 := Aside0.mk (by simpa using blk_set SK4.out 0 (.int .u64 b)); have f1 : (w4.setCell ⟨w.heap.size, 0, none⟩ (.int .u64 b)).frozen? ⟨w.heap.size, 1, none⟩ = false := blk_frozen SK5.out 1; have SK6 := Aside0.mk (by simpa using blk_set SK5.out 1 (.int .u64 e)); have f2 : ((w4.setCell ⟨w.heap.size, 0, none⟩ (.int .u64 b)).setCell ⟨w.heap.size, 1, none⟩ (.int .u64 e)).frozen? ⟨w.heap.size, 2, none⟩ = false := blk_frozen SK6.out 2))
  have SK7 := Aside0.mk (by simpa using blk_set SK6.out 2 (.slice B4 l.length d4))
  have g0 : (((w4.setCell ⟨w.heap.size, 0, none⟩ (.int .u64 b)).setCell ⟨w.heap.size, 1, none⟩ (.int .u64 e)).setCell ⟨w.heap.size, 2, none⟩ (.slice B4 l.length d4)).cell? ⟨w.heap.size, 0, none⟩ = some (.int .u64 b) := (blk_cell SK7.out 0).trans rfl
  have g1 : (((w4.setCell ⟨w.heap.size, 0, none⟩ (.int .u64 b)).setCell ⟨w.heap.size, 1, none⟩ (.int .u64 e)).setCell ⟨w.heap.size, 2, none⟩ (.slice B4 l.length d4)).cell? ⟨w.heap.size, 1, none⟩ = some (.int .u64 e) := (blk_cell SK7.out 1).trans rfl
  have g2 : (((w4.setCell ⟨w.heap.size, 0, none⟩ (.int .u64 b)).setCell ⟨w.heap.size, 1, none⟩ (.int .u64 e)).setCell ⟨w.heap.size, 2, none⟩ (.slice B4 l.length d4)).cell? ⟨w.heap.size, 2, none⟩ = some (.slice B4 l.length d4) := (blk_cell SK7.out 2).trans rfl
  refine bodyPost_ret (v := .agg #[.int .u64 b, .int .u64 e, .slice B4 l.length d4]) (by simp [results, Tryd.results65, go_sem, g0, g1, g2]) rfl ⟨_, rfl, ?_, ?_⟩
  · exact Kd.S_set (Kd.S_set (Kd.S_set HS4.out SK4.out (by decide) 0 _) SK5.out (by decide) 1 _) SK6.out (by decide) 2 _
  · exact Below.setCell (Below.setCell (Below.setCell HB4.out (Nat.le_refl _) _) (Nat.le_refl _) _) (Nat.le_refl _) _
end Go.Proofs.YtfhcpniibiobgaaDoor.Qf
namespace Go.Proofs.YtfhcpniibiobgaaDoor.Qf
open Go.RowKit Go.Proofs.YtfhcpniibiobgaaDoorW.PrintWords Go.Proofs.YtfhcpniibiobgaaDoorW.PrintLast Go.Proofs.YtfhcpniibiobgaaDoorW.PrintMore
open Hs (CB CL at_L at_B infoB infoL R_of_blk)

/-- What one leaf more makes of a range's hashes. -/
def MStep (a0 a1 a2 a3 a4 a5 : Int) (b e : Nat) (l : List (List Int)) (s : List Int) (l' : List (List Int)) : Prop :=
  ∃ low hgh : Nat, compact_getMergePath.f (b : Int) (e : Int) ((e + 1 : Nat) : Int) = some ((low : Int), (hgh : Int)) ∧
    ((hgh < low ∧ low ≤ 64 ∧ bits_OnesCount64.f (Go.bits .and .u64 ((e : Int) / 2 ^ low) 0) = some 0 ∧ l' = l ++ [s]) ∨
    ∃ (n : Nat) (t : List Int), low + n = hgh ∧ hgh ≤ 64 ∧ n ≤ l.length ∧ bits_OnesCount64.f (Go.bits .and .u64 ((e : Int) / 2 ^ low) (IntKind.u64.wrap (IntKind.u64.wrap ((2 : Int) ^ n) - 1))) = some (n : Int) ∧ (∀ i, i < n → e / 2 ^ low / 2 ^ i % 2 = 1) ∧ mgO a0 a1 a2 a3 a4 a5 l n s = some t ∧ l' = l.take (l.length - n) ++ [t])

theorem ptr_neq (gf : Nat) (W : World) : (binOp .neq 96 (.pointer (some ⟨gf, 0, none⟩)) (.pointer (some ⟨gf, 0, none⟩))).run Tryd.prog W = .ok (.bool false) W := by
  have h : (Tryd.prog.info? 100).isSome = true := by kernel_rfl
  obtain ⟨j, hj⟩ := Option.isSome_iff_exists.1 h
  exact Go.Lib.run_neq_ptr_same W ⟨gf, 0, none⟩ (te := 100) (by kernel_rfl) hj
section
variable {a0 a1 a2 a3 a4 a5 : Int} {w0 : World} {gr gf gs : Nat} {S : Nat → Prop} {w w' : World} {b e : Nat} {vr vs : Value} {l l' : List (List Int)} {n : Nat}
theorem MStep.calls {s : List Int} (hm : MStep a0 a1 a2 a3 a4 a5 b e l s l') (As : Option Addr) (cs : Nat) (h : RSt a0 a1 a2 a3 a4 a5 w0 gr gf gs S w (b : Int) (e : Int) vr vs l n) (hs : Safe S w As s) (hsc : s.length ≤ cs) (hsl : s.length ≤ 140737488351232) (HG_ : Glob w0) (he : e + 1 < 18446744073709551616) (hl : l.length ≤ 500) (hn : n ≤ 600 - l.length + 300) :
    Calls Tryd.prog 63 #[.pointer (some ⟨gr, 0, none⟩), .slice As s.length cs, .func (.func 64) #[] #[.pointer (some ⟨gs, 0, none⟩)]] w fun en w' => ∃ vr' vs' S' n', en = .returned .nilIface ∧ RSt a0 a1 a2 a3 a4 a5 w0 gr gf gs S' w' (b : Int) ((e : Int) + 1) vr' vs' l' n' ∧ Grows S S' w ∧ KeptS S' w w' ∧ n' + l'.length = n + l.length + 2 := by
  obtain ⟨low, hgh, hmp, hc⟩ := hm
  rcases hc with ⟨h1, h2, h3, h4⟩ | ⟨k, t, h1, h2, h3, h4, h5, h6, h7⟩
  · refine (append_of a0 a1 a2 a3 a4 a5 w0 gr gf gs S w b e vr vs l l' n (n + 1) As cs s h hs hsl (by omega) he (fun S1 w1 vs1 hR hS => ?_)).mono fun en w' ⟨vr', vs', S', e1, e2, e3, e4⟩ => ⟨vr', vs', S', n + 1, e1, e2, e3, e4, by rw [h4, List.length_append]; simp; omega⟩
    subst h4
    have := appendImpl_none a0 a1 a2 a3 a4 a5 w0 gr gf gs S1 w1 b e (e + 1) vr vs1 l (n + 1) As cs s low hgh hR hS hsc HG_ hmp h1 h2 (by omega) h3
    rwa [show (((e + 1 : Nat) : Int)) = (e : Int) + 1 by omega] at this
  · refine (append_of a0 a1 a2 a3 a4 a5 w0 gr gf gs S w b e vr vs l l' n (n + 1 + k) As cs s h hs hsl (by omega) he (fun S1 w1 vs1 hR hS => ?_)).mono fun en w' ⟨vr', vs', S', e1, e2, e3, e4⟩ => ⟨vr', vs', S', n + 1 + k, e1, e2, e3, e4, by rw [h7, List.length_append, List.length_take]; simp; omega⟩
    subst h7
    have := appendImpl_one a0 a1 a2 a3 a4 a5 w0 gr gf gs S1 w1 b e (e + 1) vr vs1 l (n + 1) As cs s t low hgh k hR hS hsc HG_ (by omega) hmp (by omega) h1 h2 h3 (by omega) (by omega) h4 h5 h6
    rwa [show (((e + 1 : Nat) : Int)) = (e : Int) + 1 by omega] at this
end

/-- The leaves' row: its blocks are none that change. -/
structure LRow (S : Nat → Prop) (w : World) (A : Option Addr) (M : List (List Int)) : Prop where
  get : ∀ j, j < M.length → ∃ ad A0 c0, A = some ad ∧ w.cell? (ad.add j) = some (.slice A0 (M.getD j []).length c0) ∧ (M.getD j []).length ≤ c0 ∧ Safe S w A0 (M.getD j []) ∧ ad.block < w.heap.size ∧ ¬ S ad.block
theorem LRow.step {S S' : Nat → Prop} {w w' : World} {A : Option Addr} {M : List (List Int)} (h : LRow S w A M) (g : Grows S S' w) (k : KeptS S' w w') : LRow S' w' A M where
  get := fun j hj => by
    obtain ⟨ad, A0, c0, e1, e2, e3, e4, e5, e6⟩ := h.get j hj
    have hn : ¬ S' ad.block := fun hs => by
      rcases g.2 _ hs with h1 | h1
      · exact e6 h1
      · omega
    refine ⟨ad, A0, c0, e1, ?_, e3, e4.step g k, Nat.lt_of_lt_of_le e5 k.size, hn⟩
    rw [← e2]
    unfold World.cell?
    rw [show (ad.add j).block = ad.block by unfold Addr.add; split <;> rfl, k.block _ e5 hn]
theorem LRow.new {S : Nat → Prop} {w w' : World} {v : Value} {M : List (List Int)} (hS : ∀ k, S k → k < w.heap.size) (h : Kd.S (Kd.slice 5 (Kd.int .u8)) 28 w' w.heap.size (fun _ => True) v M) : ∃ A c, v = .slice A M.length c ∧ M.length ≤ c ∧ LRow S w' A M := by
  have hR := Kd.S_R h
  obtain ⟨A, c, e, hl, hr⟩ := OwnRow.reads hR.2
  have hC : (kG S w').C w' A M.length M := hr.imp_ (Below.refl _ _) fun x cs hp => by
    obtain ⟨u, ecs, hu⟩ := hp
    obtain ⟨A', c', e', hl', _⟩ := Kd.R_reads hu
    subst e'
    exact ⟨A', c', ecs, hl', Safe.new hS (Kd.R_mono hu (fun _ _ => trivial))⟩
  refine ⟨A, c, e, hl, ⟨fun j hj => ?_⟩⟩
  obtain ⟨ad, cs, ea, _, hK, hc0⟩ := Kd.C_get hC ([] : List Int) (j : Int) (by omega) (by omega)
  simp only [Int.toNat_natCast] at hK hc0
  have hc : ∀ i u, cs[i]? = some u → w'.cell? (ad.add (j * 1 + i)) = some u := hc0
  obtain ⟨A0, c0, rfl, l0, g0⟩ := hK
  subst ea e
  have hb : w.heap.size ≤ ad.block := Kd.R_base hR _ rfl
  exact ⟨ad, A0, c0, rfl, by have hq := hc 0 _ rfl; rwa [Nat.mul_one, Nat.add_zero] at hq, l0, g0, Kd.R_lt hR _ rfl, fun hs => by have := hS _ hs; omega⟩

theorem RSt.init {a0 a1 a2 a3 a4 a5 : Int} {w0 W1 w2 w3 : World} {gr gf : Nat} {b e : Int} {vr : Value} {l : List (List Int)} (hB1 : Below w0.heap.size w0 W1) (hfac : W1.heap[gf]? = some (facObj a0 a1 a2 a3 a4 a5)) (hS : Kd.S (Kd.slice 5 (Kd.int .u8)) 28 w2 W1.heap.size (fun _ => True) vr l) (hb2 : Below W1.heap.size W1 w2) (hg : w2.heap.size ≤ gr) (hgl : gr < w3.heap.size) (hobj : w3.heap[gr]? = some (.cells #[.pointer (some ⟨gf, 0, none⟩), .int .u64 b, .int .u64 e, vr] 151 (0, 0))) (hb3 : Below w2.heap.size w2 w3) :
    RSt a0 a1 a2 a3 a4 a5 w0 gr gf w3.heap.size (fun k => k = gr ∨ k = w3.heap.size ∨ vr.ownBlock = some k) (w3.alloc (.cells #[.slice none 0 0] 37)) b e vr (.slice none 0 0) l 0 := by
  have hfl := lt_of_block hfac
  have s1 := hB1.size
  have s2 := hb2.size
  have s3 := hb3.size
  have hR := Kd.R_bound (Kd.S_R hS)
  have hbn : ∀ k, vr.ownBlock = some k → W1.heap.size ≤ k ∧ k < w2.heap.size := fun k hk => ⟨Kd.R_base hR k hk, Kd.R_lt hR k hk⟩
  have b4 : Below w3.heap.size w3 (w3.alloc (.cells #[.slice none 0 0] 37)) := below_alloc (Below.refl _ _) _
  have s4 : (w3.alloc (.cells #[.slice none 0 0] 37)).heap.size = w3.heap.size + 1 := by simp
  have b24 := below_step hb3 b4
  have b14 := below_step hb2 b24
  have b04 := below_step hB1 b14
  exact {
    below := b04
    base := fun k hk => by
      rcases hk with rfl | rfl | hk
      · omega
      · omega
      · have := (hbn k hk).1
        omega
    top := fun k hk => by
      rw [s4]
      rcases hk with rfl | rfl | hk
      · omega
      · omega
      · have := (hbn k hk).2
        omega
    fac := blk_below hfac b14
    nfac := fun hk => by
      rcases hk with h1 | h1 | hk
      · omega
      · omega
      · have := (hbn gf hk).1
        omega
    obj := blk_below hobj b4
    sobj := .inl rfl
    rows := ⟨by
      obtain ⟨h0, inner, hown, hr⟩ := Kd.R_lower (Kd.R_below hR b24) (by omega : w0.heap.size ≤ W1.heap.size)
      refine ⟨fun _ _ => trivial, inner, hown, hr.imp_ fun x cs hp => ?_⟩
      obtain ⟨u, ecs, hu⟩ := hp
      obtain ⟨A', c', e', hl', hC'⟩ := Kd.R_reads hu
      subst e'
      refine ⟨A', c', ecs, hl', ⟨hC', fun _ ad ea => ?_⟩⟩
      subst ea
      obtain ⟨⟨_, q1, q2, _⟩, q3⟩ := hu.1 ad.block rfl
      refine ⟨by rw [s4]; omega, fun hk => ?_⟩
      rcases hk with h1 | h1 | hk
      · omega
      · omega
      · exact q3 hk.symm, fun k hk => .inr (.inr hk)⟩
    seen := heap_alloc_new _ _
    sseen := .inr (.inl rfl)
    srow := Kd.R_nil _ _ _ _ _
    sown := fun k hk => by simp [Value.ownBlock] at hk }
end Go.Proofs.YtfhcpniibiobgaaDoor.Qf
