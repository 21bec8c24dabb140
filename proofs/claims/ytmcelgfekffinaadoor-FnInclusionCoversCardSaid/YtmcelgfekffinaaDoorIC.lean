import Derived.Test.YtmcelgfekffinaaDoorQtx7
namespace Go.Proofs.YtmcelgfekffinaaDoor.Qt
open Go.RowKit Go.Proofs.YtmcelgfekffinaaDoorW.PrintWords Go.Proofs.YtmcelgfekffinaaDoorW.PrintLast Go.Proofs.YtmcelgfekffinaaDoorW.PrintMore

/-- What is known of the nodes. -/
structure Cov (i s : Nat) (l : List S27) (el ei bb ee : Nat) (lv a b S E : Nat → Nat) : Prop where
  n : l.length ≤ 1000
  hbe : bb ≤ ee
  hel : ee ≤ l.length
  hlv : ∀ j, j < l.length → (rd_T27 l (j : Nat)).f0 = ((lv j : Nat) : Int) ∧ lv j ≤ 63
  leaf : ∀ j, j < l.length → spec_Leaves.f ((rd_T27 l (j : Nat)).f0) ((rd_T27 l (j : Nat)).f1) = some (((a j : Nat) : Int), ((b j : Nat) : Int))
  ab : ∀ j, j < l.length → a j < b j ∧ b j ≤ s ∧ (i < a j ∨ b j ≤ i)
  apart : ∀ j m, j < l.length → m < j → b m ≤ a j ∨ b j ≤ a m
  s0 : S 0 = 1
  ss : ∀ j, j < l.length → S (j + 1) = S j + (b j - a j)
  sn : S l.length = s
  sle : ∀ j, j ≤ l.length → S j ≤ s
  s64 : s < 18446744073709551616
  e0 : E 0 = s
  eb : ∀ m, m < ee - bb → b (bb + m) = E m ∧ a (bb + m) = E (m + 1) ∧ lv (bb + m) ≤ el ∧ E (m + 1) / 2 ^ el = ei
  el63 : el ≤ 63

theorem rd_sub (l : List S27) (bb ee m : Nat) (h : bb + m < ee) : rd_T27 ((l.take ee).drop bb) (m : Int) = rd_T27 l ((bb + m : Nat) : Int) := by
  unfold rd_T27
  rw [Int.toNat_natCast, Int.toNat_natCast, List.getD_eq_getElem?_getD, List.getD_eq_getElem?_getD, List.getElem?_drop, List.getElem?_take, if_pos h]
set_option maxHeartbeats 4000000 in
set_option maxRecDepth 100000 in
theorem covers_walk (k : Nat) (i s : Nat) (l : List S27) (el ei bb ee : Nat) (lv a b S E : Nat → Nat) (w : World) (HG : Glob w) (hi : i < s) (h : impl_Inclusion.f k (i : Int) (s : Int) = some (l, (el : Int), (ei : Int), (bb : Int), (ee : Int), true)) (hcov : Cov i s l el ei bb ee lv a b S E) :
    Calls Tryd.prog 5 #[.int .u64 (i : Nat), .int .u64 (s : Nat)] w fun e w' => e = .returned (.bool true) ∧ Below w.heap.size w w' := by
  have A5 := Aside0.mk h
  have CV := Aside0.mk hcov
  have hn := hcov.n
  have hbe := hcov.hbe
  have hel := hcov.hel
  have h64 := hcov.s64
  have ti : decide (s ≤ i) = false := decide_eq_false (by omega)
  have tb : decide ((bb : Int) < 0) = false := decide_eq_false (by omega)
  have te : decide (ee < bb) = false := decide_eq_false (by omega)
  have tl : decide (l.length < ee) = false := decide_eq_false (by omega)
  clear h hcov
  go_enter Tryd.func5, Tryd.ntmps5
  go_wp2_with (go_at_call 15; (with_reducible refine (impl_Inclusion.calls k (i : Int) (s : Int) l (el : Int) (ei : Int) (bb : Int) (ee : Int) true _ HG A5.out).mono ?_); rintro e w1 ⟨v0, rfl, hR, hb⟩; obtain ⟨A, c, rfl, hle, hC⟩ := Kd.R_reads hR; obtain ⟨hc, hf⟩ := bcell hb; have HC := Aside0.mk hC; have HR := Aside0.mk hR; have HB := Aside0.mk hb; clear hC hR)
  have BK := Aside0.mk (heap_alloc_new w1 (.cells #[.slice A l.length c, .int .u64 (el : Int), .int .u64 (ei : Int), .int .i64 (bb : Int), .int .i64 (ee : Int)] 36))
  have HC2 := Aside0.mk (Kd.C_below HC.out (Below.alloc (Below.refl w1.heap.size w1) (Nat.le_refl _) (.cells #[.slice A l.length c, .int .u64 (el : Int), .int .u64 (ei : Int), .int .i64 (bb : Int), .int .i64 (ee : Int)] 36)))
  have HB2 := Aside0.mk (below_alloc HB.out (.cells #[.slice A l.length c, .int .u64 (el : Int), .int .u64 (ei : Int), .int .i64 (bb : Int), .int .i64 (ee : Int)] 36))
  have GE := Aside0.mk HB.out.size
  clear HC HR HB hc hf hb
  generalize w1.alloc (.cells #[.slice A l.length c, .int .u64 (el : Int), .int .u64 (ei : Int), .int .i64 (bb : Int), .int .i64 (ee : Int)] 36) = w2 at BK HC2 HB2 ⊢
  generalize w1.heap.size = g at BK GE ⊢
  (try simp only [Act.put, List.setIfInBounds_toArray, List.set_cons_zero, List.set_cons_succ])
  go_loopg [7, 55] l.length (fun kq v7 v55 wr => ∃ j : Nat, j + kq = l.length ∧ v55 = .int .i64 (j : Nat) ∧ v7 = .int .u64 ((S j : Nat) : Int) ∧ Aside0 (Kd.C k27 wr A l.length l) ∧ Aside0 (wr.heap[g]? = some (.cells #[.slice A l.length c, .int .u64 (el : Int), .int .u64 (ei : Int), .int .i64 (bb : Int), .int .i64 (ee : Int)] 36 (0, 0))) ∧ Aside0 (Below w.heap.size w wr))
  case atStart => exact ⟨0, by omega, rfl, by rw [CV.out.s0]; rfl, HC2, BK, HB2⟩
  case round =>
    clear HC2 BK HB2
    obtain ⟨j, hj, rfl, rfl, HC, BK, HB⟩ := hrel
    by_cases hlt : j < l.length
    · have hlv := CV.out.hlv j hlt
      have hab := CV.out.ab j hlt
      have LF0 := CV.out.leaf j hlt
      rw [hlv.1] at LF0
      have LF := Aside0.mk LF0
      clear LF0
      obtain ⟨ad, ead, hx0, hx1⟩ := at_T27 HC.out (j : Int) (by omega) (by omega)
      cases ead
      have hcz_0 : wr.cell? ⟨g, 0, none⟩ = some (.slice (some ad) l.length c) := (blk_cell BK.out 0).trans rfl
      rw [hlv.1] at hx0
      simp only [Int.toNat_natCast] at hx0 hx1
      have e1 : ((lv j : Nat) : Int) ≤ 63 := by omega
      obtain ⟨hd1, hd2, hd3⟩ := hab
      have hgl : g < wr.heap.size := blk_lt BK.out
      have hgl2 : g < wr.heap.size + 1 := by omega
      obtain ⟨i0, hi0, _, hsz, _⟩ := info_parts info27
      have hcut := cut_to (P := Tryd.prog) 23 27 .i64 Tryd.underlying23 hi0 (some ad) l.length c (j : Int) (by omega) (by omega) hle
      simp only [Int.toNat_natCast] at hcut
      clear hi0 hsz
      clear hlv
      have tq1 : decide (64 ≤ ((lv j : Nat) : Int)) = false := decide_eq_false (by omega)
      have tq2 : decide (s < b j) = false := decide_eq_false (by omega)
      have tq3 : decide (b j ≤ a j) = false := decide_eq_false (by omega)
      have hd4 : (decide (a j ≤ i) = false ∧ i < a j) ∨ (decide (a j ≤ i) = true ∧ decide (i < b j) = false ∧ b j ≤ i) := by
        rcases hd3 with h | h
        · exact .inl ⟨decide_eq_false (by omega), h⟩
        · exact .inr ⟨decide_eq_true (by omega), decide_eq_false (by omega), h⟩
      clear hd3
      rcases hd4 with ⟨tq4, hd3⟩ | ⟨tq4, tq5, hd3⟩
      all_goals
        go_wp2_with (go_at_call 8; (with_reducible refine (spec_Leaves.calls _ _ ((a j : Nat) : Int) ((b j : Nat) : Int) _ LF.out).mono ?_); rintro e w3 ⟨rfl, hb3⟩; obtain ⟨hc3, hf3⟩ := bcell hb3; have hz3 : wr.heap.size < w3.heap.size := (by have := hb3.size; simp at this; omega); have hz4 : g < w3.heap.size := (by omega))
        have hB4 : Below wr.heap.size wr (w3.alloc (.cells #[.int .u64 ((a j : Nat) : Int), .int .u64 ((b j : Nat) : Int)] 29)) := below_alloc (below_then (below_alloc (Below.refl _ _) _) (by simp) hb3) _
        have HC4 := Aside0.mk (Kd.C_below HC.out hB4)
        have BK4 := Aside0.mk (blk_below BK.out hB4)
        have HB4 := Aside0.mk (below_then HB.out HB.out.size hB4)
        have NB4 := Aside0.mk (heap_alloc_new w3 (.cells #[.int .u64 ((a j : Nat) : Int), .int .u64 ((b j : Nat) : Int)] 29))
        clear hB4 hb3 hc3 hf3 HC BK HB LF hx0 hx1 hcz_0
        generalize w3.alloc (.cells #[.int .u64 ((a j : Nat) : Int), .int .u64 ((b j : Nat) : Int)] 29) = w4 at HC4 BK4 HB4 NB4 ⊢
        generalize w3.heap.size = ga at hz3 hz4 NB4 ⊢
        go_loopg [95] j (fun kq v95 w5 => ∃ m : Nat, m + kq = j ∧ v95 = .int .i64 (m : Nat) ∧ Aside0 (Kd.C k27 w5 (some ad) l.length l) ∧ Aside0 (w5.heap[g]? = some (.cells #[.slice (some ad) l.length c, .int .u64 (el : Int), .int .u64 (ei : Int), .int .i64 (bb : Int), .int .i64 (ee : Int)] 36 (0, 0))) ∧ Aside0 (w5.heap[ga]? = some (.cells #[.int .u64 ((a j : Nat) : Int), .int .u64 ((b j : Nat) : Int)] 29 (0, 0))) ∧ Aside0 (Below w.heap.size w w5))
        case atStart => exact ⟨0, by omega, rfl, HC4, BK4, NB4, HB4⟩
        case round =>
          clear HC4 BK4 HB4 NB4
          obtain ⟨m, hm, rfl, HC, BK, NB, HB⟩ := hrel
          by_cases hml : m < j
          · have hmlen : m < l.length := by omega
            have hlvm := CV.out.hlv m hmlen
            have hapt := CV.out.apart j m hlt hml
            have habm := (CV.out.ab m hmlen).1
            have LF0 := CV.out.leaf m hmlen
            rw [hlvm.1] at LF0
            have LF := Aside0.mk LF0
            clear LF0
            obtain ⟨ad', ead, hx0, hx1⟩ := at_T27 HC.out (m : Int) (by omega) (by omega)
            cases ead
            rw [hlvm.1] at hx0
            simp only [Int.toNat_natCast] at hx0 hx1
            clear hlvm
            have na_0 : wr.cell? ⟨ga, 0, none⟩ = some (.int .u64 ((a j : Nat) : Int)) := (blk_cell NB.out 0).trans rfl
            have na_1 : wr.cell? ⟨ga, 1, none⟩ = some (.int .u64 ((b j : Nat) : Int)) := (blk_cell NB.out 1).trans rfl
            have gal : ga < wr.heap.size := blk_lt NB.out
            have gal2 : ga < wr.heap.size + 1 := by omega
            rcases hapt with hapt | hapt
            all_goals
              go_wp2_with (go_at_call 8; (with_reducible refine (spec_Leaves.calls _ _ ((a m : Nat) : Int) ((b m : Nat) : Int) _ LF.out).mono ?_); rintro e w3 ⟨rfl, hb3⟩; obtain ⟨hc3, hf3⟩ := bcell hb3; have hz5 : wr.heap.size < w3.heap.size := (by have := hb3.size; simp at this; omega); have hz6 : ga < w3.heap.size := (by omega))
              have hB4 : Below wr.heap.size wr (w3.alloc (.cells #[.int .u64 ((a m : Nat) : Int), .int .u64 ((b m : Nat) : Int)] 29)) := below_alloc (below_then (below_alloc (Below.refl _ _) _) (by simp) hb3) _
              go_roundg (gk - 1)
              case measure => omega
              case rel => exact ⟨m + 1, by omega, by go_num, ⟨Kd.C_below HC.out hB4⟩, ⟨blk_below BK.out hB4⟩, ⟨blk_below NB.out hB4⟩, ⟨below_then HB.out HB.out.size hB4⟩⟩
          · have na_0 : wr.cell? ⟨ga, 0, none⟩ = some (.int .u64 ((a j : Nat) : Int)) := (blk_cell NB.out 0).trans rfl
            have na_1 : wr.cell? ⟨ga, 1, none⟩ = some (.int .u64 ((b j : Nat) : Int)) := (blk_cell NB.out 1).trans rfl
            have hss := CV.out.ss j hlt
            have hsl := CV.out.sle (j + 1) (by omega)
            have hs1 : S j + (b j - a j) ≤ s := by omega
            have HSS := Aside0.mk hss
            clear hss hsl
            go_wp2
            go_roundg (l.length - (j + 1))
            case measure => omega
            case rel => exact ⟨j + 1, by omega, by go_num, by rw [HSS.out]; go_num, HC, BK, HB⟩
    · obtain rfl : j = l.length := by omega
      have hgl : g < wr.heap.size := blk_lt BK.out
      obtain ⟨i0, hi0, _, hsz, _⟩ := info_parts info27
      have hcz_0 : wr.cell? ⟨g, 0, none⟩ = some (.slice A l.length c) := (blk_cell BK.out 0).trans rfl
      have hcz_2 : wr.cell? ⟨g, 3, none⟩ = some (.int .i64 (bb : Int)) := (blk_cell BK.out 3).trans rfl
      have hcz_3 : wr.cell? ⟨g, 4, none⟩ = some (.int .i64 (ee : Int)) := (blk_cell BK.out 4).trans rfl
      have hcut := cut_mid (P := Tryd.prog) 23 27 .i64 .i64 Tryd.underlying23 hi0 2 hsz A l.length c (bb : Int) (ee : Int) (by omega) (by omega) (by omega) hle
      simp only [Int.toNat_natCast] at hcut
      have hCm := Kd.C_mid (lo := bb) (hi := ee) HC.out hbe hel hle
      obtain ⟨sub, hsub⟩ : ∃ sub, sub = (l.take ee).drop bb := ⟨_, rfl⟩
      have hsl : sub.length = ee - bb := by rw [hsub, List.length_drop, List.length_take]; omega
      rw [← hsub] at hCm
      obtain ⟨A1, hA1⟩ : ∃ A1, A1 = (if c = bb then A else A.map (·.add (bb * 2))) := ⟨_, rfl⟩
      have hCm2 : Kd.C k27 wr A1 sub.length sub := by rw [hA1]; exact hCm
      rw [← hA1, ← hsl] at hcut
      have HCM := Aside0.mk hCm2
      have HSUB := Aside0.mk hsub
      have HSL := Aside0.mk hsl
      have hsl2 : sub.length ≤ 1000 := by omega
      clear hCm hCm2 hsub hsl hA1 hi0 hsz
      go_wp2
      go_loopg [14, 131] sub.length (fun kq v14 v131 w5 => ∃ m : Nat, m + kq = sub.length ∧ v131 = .int .i64 (m : Nat) ∧ v14 = .int .u64 ((E m : Nat) : Int) ∧ Aside0 (Kd.C k27 w5 A1 sub.length sub) ∧ Aside0 (w5.heap[g]? = some (.cells #[.slice A l.length c, .int .u64 (el : Int), .int .u64 (ei : Int), .int .i64 (bb : Int), .int .i64 (ee : Int)] 36 (0, 0))) ∧ Aside0 (Below w.heap.size w w5))
      case atStart => exact ⟨0, by omega, rfl, by rw [CV.out.e0], HCM, BK, HB⟩
      case round =>
        clear HCM BK HB HC hcz_0 hcz_2 hcz_3 hgl hcut
        obtain ⟨m, hm, rfl, rfl, HC, BK, HB⟩ := hrel
        by_cases hml : m < sub.length
        · have hml2 : m < ee - bb := by have := HSL.out; omega
          obtain ⟨q1, q2, q3, q4⟩ := CV.out.eb m hml2
          have hlvm := CV.out.hlv (bb + m) (by omega)
          have LF0 := CV.out.leaf (bb + m) (by omega)
          rw [hlvm.1, q1, q2] at LF0
          obtain ⟨ad, ead, hx0, hx1⟩ := at_T27 HC.out (m : Int) (by omega) (by omega)
          cases ead
          rw [HSUB.out, rd_sub l bb ee m (by omega)] at hx0 hx1
          rw [hlvm.1] at hx0
          simp only [Int.toNat_natCast] at hx0 hx1
          have hlv63 := hlvm.2
          have tv0 : lv (bb + m) ≤ el := q3
          clear hlvm q3
          generalize (rd_T27 l ((bb + m : Nat) : Int)).f1 = ix at hx1 LF0
          generalize lv (bb + m) = lvm at hx0 LF0 hlv63 tv0
          have LF := Aside0.mk LF0
          have tv : decide (((el : Nat) : Int) < ((lvm : Nat) : Int)) = false := decide_eq_false (by omega)
          have hsh : (((E (m + 1) : Nat) : Int) / 2 ^ min el 64 != (ei : Int)) = false := by
            have h63 := CV.out.el63
            rw [Nat.min_eq_left (by omega), ← q4]
            simp
          clear LF0 q1 q2 q4
          have hgl : g < wr.heap.size := blk_lt BK.out
          have hgl2 : g < wr.heap.size + 1 := by omega
          have hcz_1 : wr.cell? ⟨g, 1, none⟩ = some (.int .u64 (el : Int)) := (blk_cell BK.out 1).trans rfl
          have hcz_2 : wr.cell? ⟨g, 2, none⟩ = some (.int .u64 (ei : Int)) := (blk_cell BK.out 2).trans rfl
          go_wp2_with (go_at_call 8; (with_reducible refine (spec_Leaves.calls _ _ ((E (m + 1) : Nat) : Int) ((E m : Nat) : Int) _ LF.out).mono ?_); rintro e w3 ⟨rfl, hb3⟩; obtain ⟨hc3, hf3⟩ := bcell hb3; have hz5 : wr.heap.size < w3.heap.size := (by have := hb3.size; simp at this; omega); have hz6 : g < w3.heap.size := (by omega))
          have hB4 : Below wr.heap.size wr (w3.alloc (.cells #[.int .u64 ((E (m + 1) : Nat) : Int), .int .u64 ((E m : Nat) : Int)] 29)) := below_alloc (below_then (below_alloc (Below.refl _ _) _) (by simp) hb3) _
          go_roundg (sub.length - (m + 1))
          case measure => omega
          case rel => exact ⟨m + 1, by omega, by go_num, rfl, ⟨Kd.C_below HC.out hB4⟩, ⟨blk_below BK.out hB4⟩, ⟨below_then HB.out HB.out.size hB4⟩⟩
        · go_wp2
          go_ret
          exact ⟨by rw [CV.out.sn]; simp, HB.out⟩

set_option maxHeartbeats 1000000 in
set_option maxRecDepth 100000 in
theorem covers_none (i s : Nat) (w : World) (hi : s ≤ i) :
    Calls Tryd.prog 5 #[.int .u64 (i : Nat), .int .u64 (s : Nat)] w fun e w' => e = .returned (.bool true) ∧ Below w.heap.size w w' := by
  have ti : decide (s ≤ i) = true := decide_eq_true hi
  go_enter Tryd.func5, Tryd.ntmps5
  go_wp2_with (go_at_call 15; (refine (impl_Inclusion.err (i : Int) (s : Int) _ (by omega)).mono ?_); rintro e w1 ⟨rfl, hb⟩; obtain ⟨hc, hf⟩ := bcell hb; have HB := Aside0.mk hb; clear hb)
  go_ret
  exact ⟨rfl, below_alloc HB.out _⟩

/-- What the nodes of an audit path are. -/
def laws_FnInclusionCovers.Pure : Prop := ∀ i s : Nat, i < s → s < 18446744073709551616 → ∃ (k : Nat) (l : List S27) (el ei bb ee : Nat) (lv a b S E : Nat → Nat), impl_Inclusion.f k (i : Int) (s : Int) = some (l, (el : Int), (ei : Int), (bb : Int), (ee : Int), true) ∧ Cov i s l el ei bb ee lv a b S E

theorem laws_FnInclusionCovers.walk (P : laws_FnInclusionCovers.Pure) (a0 : Int) (a1 : Int) (w : World) (HG_ : Glob w) (w0 : (Lit.int .u64 a0).wf = true) (w1 : (Lit.int .u64 a1).wf = true) :
    Calls Tryd.prog 5 #[.int .u64 a0, .int .u64 a1] w fun e w' => e = .returned (.bool true) ∧ Below w.heap.size w w' := by
  simp only [Lit.wf, Bool.and_eq_true, decide_eq_true_eq] at w0 w1
  obtain ⟨i, rfl⟩ := Int.eq_ofNat_of_zero_le (show 0 ≤ a0 from w0.1)
  obtain ⟨s, rfl⟩ := Int.eq_ofNat_of_zero_le (show 0 ≤ a1 from w1.1)
  have hs : s < 18446744073709551616 := by
    have h1 : (s : Int) ≤ 18446744073709551615 := w1.2
    omega
  by_cases h : i < s
  · obtain ⟨k, l, el, ei, bb, ee, lv, a, b, S, E, hf, hc⟩ := P i s h hs
    exact covers_walk k i s l el ei bb ee lv a b S E w HG_ h hf hc
  · exact covers_none i s w (by omega)
end Go.Proofs.YtmcelgfekffinaaDoor.Qt
